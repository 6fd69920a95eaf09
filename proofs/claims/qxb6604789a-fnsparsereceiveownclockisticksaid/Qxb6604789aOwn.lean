/-
  A BLOCK OF ENTRIES THAT THE CALL ITSELF MADE: its whole content is a list of pairs.
-/
import Derived.Test.Qxb6604789aMem
import Derived.Deep.OwnRows
namespace Go.Proofs.Qxb6604789a
open Go.RowKit

/-- Cell j of a row of entries. -/
def entF (l : List (Int × Int)) (j : Nat) : Value := if j % 2 = 0 then .int .i64 (eP l (j / 2)) else .int .u64 (eN l (j / 2))

theorem entF_even (l : List (Int × Int)) (i : Nat) : entF l (i * 2) = .int .i64 (eP l i) := by
  unfold entF; rw [if_pos (by omega), show i * 2 / 2 = i by omega]
theorem entF_odd (l : List (Int × Int)) (i : Nat) : entF l (i * 2 + 1) = .int .u64 (eN l i) := by
  unfold entF; rw [if_neg (by omega), show (i * 2 + 1) / 2 = i by omega]

/-- Block g holds just the entries l (t: the type of its elements). -/
def Row (w : World) (t g : Nat) (l : List (Int × Int)) : Prop := w.rowIs g t (l.length * 2) (entF l)

theorem Row.cell0 {w : World} {t g : Nat} {l : List (Int × Int)} (h : Row w t g l) {i : Nat} (hi : i < l.length) : w.cell? ⟨g, i * 2, none⟩ = some (.int .i64 (eP l i)) := by
  rw [World.rowIs.cell h (show i * 2 < l.length * 2 by omega), entF_even]
theorem Row.cell1 {w : World} {t g : Nat} {l : List (Int × Int)} (h : Row w t g l) {i : Nat} (hi : i < l.length) : w.cell? ⟨g, i * 2 + 1, none⟩ = some (.int .u64 (eN l i)) := by
  rw [World.rowIs.cell h (show i * 2 + 1 < l.length * 2 by omega), entF_odd]
theorem Row.frozen {w : World} {t g : Nat} {l : List (Int × Int)} (h : Row w t g l) (i : Nat) : w.frozen? ⟨g, i, none⟩ = false := World.rowIs.frozen h i
theorem Row.lt {w : World} {t g : Nat} {l : List (Int × Int)} (h : Row w t g l) : g < w.heap.size := World.rowIs.lt h
theorem Row.of_block {w w' : World} {t g : Nat} {l : List (Int × Int)} (h : Row w t g l) (e : w'.heap[g]? = w.heap[g]?) : Row w' t g l := World.rowIs.of_block h e
theorem Row.of_heap {w w' : World} {t g : Nat} {l : List (Int × Int)} (h : Row w t g l) (e : w'.heap = w.heap) : Row w' t g l := h.of_block (by rw [e])
theorem Row.alloc {w : World} {t g : Nat} {l : List (Int × Int)} (h : Row w t g l) (o : Obj) : Row (w.alloc o) t g l := World.rowIs.alloc h o
theorem Row.below {w w' : World} {t g B : Nat} {l : List (Int × Int)} (h : Row w t g l) (hb : Below B w w') (hg : g < B) : Row w' t g l := h.of_block (hb.block g hg)

theorem eP_set (l : List (Int × Int)) (i j : Nat) (p n : Int) (hi : i < l.length) : eP (l.set i (p, n)) j = if j = i then p else eP l j := by
  unfold eP
  simp only [List.getD, List.getElem?_set]
  by_cases h : i = j
  · subst h; simp [hi]
  · rw [if_neg h, if_neg (fun e => h e.symm)]
theorem eN_set (l : List (Int × Int)) (i j : Nat) (p n : Int) (hi : i < l.length) : eN (l.set i (p, n)) j = if j = i then n else eN l j := by
  unfold eN
  simp only [List.getD, List.getElem?_set]
  by_cases h : i = j
  · subst h; simp [hi]
  · rw [if_neg h, if_neg (fun e => h e.symm)]

theorem two_forms (j : Nat) : ∃ q, j = q * 2 ∨ j = q * 2 + 1 := ⟨j / 2, by omega⟩

/-- An entry is stored: both cells. -/
theorem Row.put {w : World} {t g : Nat} {l : List (Int × Int)} (h : Row w t g l) {i : Nat} (hi : i < l.length) (p n : Int) :
    Row ((w.setCell ⟨g, i * 2, none⟩ (.int .i64 p)).setCell ⟨g, i * 2 + 1, none⟩ (.int .u64 n)) t g (l.set i (p, n)) := by
  have h2 := World.rowIs.set (World.rowIs.set h (i * 2) (.int .i64 p)) (i * 2 + 1) (.int .u64 n)
  unfold Row
  rw [List.length_set]
  refine World.rowIs.congr h2 fun j hj => ?_
  obtain ⟨q, rfl | rfl⟩ := two_forms j
  · show (if q * 2 = i * 2 + 1 then _ else if q * 2 = i * 2 then _ else entF l (q * 2)) = _
    rw [entF_even, entF_even, eP_set _ _ _ _ _ hi, if_neg (by omega)]
    by_cases h1 : q = i
    · rw [if_pos (by omega), if_pos h1]
    · rw [if_neg (by omega), if_neg h1]
  · show (if q * 2 + 1 = i * 2 + 1 then _ else if q * 2 + 1 = i * 2 then _ else entF l (q * 2 + 1)) = _
    rw [entF_odd, entF_odd, eN_set _ _ _ _ _ hi]
    by_cases h1 : q = i
    · rw [if_pos (by omega), if_pos h1]
    · rw [if_neg (by omega), if_neg (by omega), if_neg h1]

/-- A count is stored. -/
theorem Row.putN {w : World} {t g : Nat} {l : List (Int × Int)} (h : Row w t g l) {i : Nat} (hi : i < l.length) (n : Int) :
    Row (w.setCell ⟨g, i * 2 + 1, none⟩ (.int .u64 n)) t g (l.set i (eP l i, n)) := by
  have h2 := World.rowIs.set h (i * 2 + 1) (.int .u64 n)
  unfold Row
  rw [List.length_set]
  refine World.rowIs.congr h2 fun j hj => ?_
  obtain ⟨q, rfl | rfl⟩ := two_forms j
  · show (if q * 2 = i * 2 + 1 then _ else entF l (q * 2)) = _
    rw [entF_even, entF_even, eP_set _ _ _ _ _ hi, if_neg (by omega)]
    by_cases h1 : q = i
    · rw [if_pos h1, h1]
    · rw [if_neg h1]
  · show (if q * 2 + 1 = i * 2 + 1 then _ else entF l (q * 2 + 1)) = _
    rw [entF_odd, entF_odd, eN_set _ _ _ _ _ hi]
    by_cases h1 : q = i
    · rw [if_pos (by omega), if_pos h1]
    · rw [if_neg (by omega), if_neg h1]

/-- A row as a slice. -/
theorem Row.lies {w : World} {t g : Nat} {l : List (Int × Int)} (h : Row w t g l) (n : Nat) : Lies w g 0 (l.take n) := by
  intro i hi
  have hi' : i < n ∧ i < l.length := by simp at hi; omega
  have e1 : eP (l.take n) i = eP l i := by simp [eP, List.getD, hi'.1]
  have e2 : eN (l.take n) i = eN l i := by simp [eN, List.getD, hi'.1]
  rw [e1, e2]
  simp only [Nat.zero_add]
  exact ⟨h.cell0 hi'.2, h.cell1 hi'.2⟩

theorem Row.slIs {w : World} {t g : Nat} {l : List (Int × Int)} (h : Row w t g l) (hl : l.length ≤ 1000000) : SlIs w (some ⟨g, 0, none⟩) l :=
  ⟨hl, fun _ => ⟨g, 0, rfl, by have := h.lies l.length; rwa [List.take_length] at this⟩⟩

theorem eP_rep (n i : Nat) : eP (List.replicate n (0, 0)) i = 0 := by
  unfold eP; by_cases h : i < n <;> simp [List.getD, h]
theorem eN_rep (n i : Nat) : eN (List.replicate n (0, 0)) i = 0 := by
  unfold eN; by_cases h : i < n <;> simp [List.getD, h]

/-- What 'make' lays. -/
theorem Row.made (w : World) (t n : Nat) : Row (w.alloc (.cells (madeCells #[.int .i64 0, .int .u64 0] (n * 2)) t)) t w.heap.size (List.replicate n (0, 0)) := by
  unfold Row
  refine ⟨_, Go.Deep.blk_alloc_new _ _, by rw [size_madeCells, List.length_replicate], fun j hj => ?_⟩
  rw [List.length_replicate] at hj
  unfold entF
  rw [eP_rep, eN_rep]
  rcases Nat.mod_two_eq_zero_or_one j with h | h <;> simp [madeCells, hj, h]

/-- 'make([]E, n)' at a type of entries. -/
theorem Try.info41 : (Try.prog.info? 41).map (fun i => (i.zero, i.size, i.bytes)) = some (some (.agg #[.int .i64 0, .int .u64 0]), 2, 16) := by kernel_rfl
theorem Try.info40 : (Try.prog.info? 40).map (fun i => (i.zero, i.size, i.bytes)) = some (some (.agg #[.int .i64 0, .int .u64 0]), 2, 16) := by kernel_rfl

theorem run_make27 (n m : Nat) (hn : m ≤ n) (h : n ≤ 10000000) (w : World) :
    (Instr.makeSlice 27 (.int .i64 (m : Int)) (.int .i64 (n : Int))).run Try.prog w = .ok (.slice (some ⟨w.heap.size, 0, none⟩) m n) (w.alloc (.cells (madeCells #[.int .i64 0, .int .u64 0] (n * 2)) 41)) := by
  obtain ⟨i, hi, hzz⟩ := Option.map_eq_some_iff.1 Try.info41
  simp only [Prod.mk.injEq] at hzz
  obtain ⟨hz, hs, hb⟩ := hzz
  have hr := run_make (P := Try.prog) w 27 41 i _ Try.underlying27 hi hz .i64 .i64 m n (by omega) (by omega) (by rw [hb]; omega) (by omega)
  simp only [Int.toNat_natCast, hs] at hr
  exact hr

theorem run_make22 (n m : Nat) (hn : m ≤ n) (h : n ≤ 10000000) (w : World) :
    (Instr.makeSlice 22 (.int .i64 (m : Int)) (.int .i64 (n : Int))).run Try.prog w = .ok (.slice (some ⟨w.heap.size, 0, none⟩) m n) (w.alloc (.cells (madeCells #[.int .i64 0, .int .u64 0] (n * 2)) 40)) := by
  obtain ⟨i, hi, hzz⟩ := Option.map_eq_some_iff.1 Try.info40
  simp only [Prod.mk.injEq] at hzz
  obtain ⟨hz, hs, hb⟩ := hzz
  have hr := run_make (P := Try.prog) w 22 40 i _ Try.underlying22 hi hz .i64 .i64 m n (by omega) (by omega) (by rw [hb]; omega) (by omega)
  simp only [Int.toNat_natCast, hs] at hr
  exact hr

end Go.Proofs.Qxb6604789a
