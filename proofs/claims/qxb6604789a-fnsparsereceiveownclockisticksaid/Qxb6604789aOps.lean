/-
  THE BUILTINS append, append-of-make, copy, AND slices.overlaps, AT ROWS OF ENTRIES (two cells an entry): what they leave in memory, as lists of pairs.
-/
import Derived.Test.Qxb6604789aOwn
import Derived.Lib.AppendZeros
import Derived.Lib.Overlaps
import Derived.Laws.CopyRow
namespace Go.Proofs.Qxb6604789a
open Go.RowKit

/-- The cells of a list of entries. -/
def cellsL : List (Int × Int) → List Value
  | [] => []
  | e :: l => .int .i64 e.1 :: .int .u64 e.2 :: cellsL l

theorem cellsL_length (l : List (Int × Int)) : (cellsL l).length = l.length * 2 := by
  induction l with
  | nil => rfl
  | cons e l ih => simp [cellsL, ih]; omega

theorem cellsL_append (l m : List (Int × Int)) : cellsL (l ++ m) = cellsL l ++ cellsL m := by
  induction l with
  | nil => rfl
  | cons e l ih => simp [cellsL, ih]

theorem cellsL_take (l : List (Int × Int)) (k : Nat) : cellsL (l.take k) = (cellsL l).take (k * 2) := by
  induction l generalizing k with
  | nil => simp [cellsL]
  | cons e l ih =>
    cases k with
    | zero => simp [cellsL]
    | succ k => rw [List.take_succ_cons, cellsL, ih, cellsL, show (k + 1) * 2 = k * 2 + 1 + 1 by omega, List.take_succ_cons, List.take_succ_cons]

theorem cellsL_drop (l : List (Int × Int)) (k : Nat) : cellsL (l.drop k) = (cellsL l).drop (k * 2) := by
  induction l generalizing k with
  | nil => simp [cellsL]
  | cons e l ih =>
    cases k with
    | zero => simp
    | succ k => rw [List.drop_succ_cons, ih, cellsL, show (k + 1) * 2 = k * 2 + 1 + 1 by omega, List.drop_succ_cons, List.drop_succ_cons]

theorem cellsL_get (l : List (Int × Int)) (j : Nat) : (cellsL l)[j]? = if j < l.length * 2 then some (entF l j) else none := by
  induction l generalizing j with
  | nil => simp [cellsL]
  | cons e l ih =>
    match j with
    | 0 => simp [cellsL, entF, eP]
    | 1 => simp [cellsL, entF, eN]; omega
    | j + 2 =>
      rw [cellsL, List.getElem?_cons_succ, List.getElem?_cons_succ, ih]
      have h1 : entF (e :: l) (j + 2) = entF l j := by
        unfold entF
        rw [show (j + 2) % 2 = j % 2 by omega, show (j + 2) / 2 = j / 2 + 1 by omega]
        simp [eP, eN]
      rw [h1]
      simp only [List.length_cons]
      by_cases h : j < l.length * 2
      · rw [if_pos h, if_pos (by omega)]
      · rw [if_neg h, if_neg (by omega)]

theorem cellsL_one (l : List (Int × Int)) : ∀ v ∈ cellsL l, v.oneCell' = true := by
  induction l with
  | nil => simp [cellsL]
  | cons e l ih => intro v hv; simp only [cellsL, List.mem_cons] at hv
                   rcases hv with rfl | rfl | hv
                   · rfl
                   · rfl
                   · exact ih v hv

theorem Row.heap {w : World} {t g : Nat} {l : List (Int × Int)} (h : Row w t g l) : w.heap[g]? = some (.cells (cellsL l).toArray t (0, 0)) := by
  obtain ⟨c, hb, hn, hc⟩ := h
  rw [hb]
  congr 2
  apply Array.ext_getElem?
  intro j
  by_cases hj : j < l.length * 2
  · rw [hc j hj, List.getElem?_toArray, cellsL_get, if_pos hj]
  · rw [Array.getElem?_eq_none (by omega), List.getElem?_toArray, cellsL_get, if_neg hj]

theorem Row.of {w : World} {t g : Nat} {l : List (Int × Int)} (h : w.heap[g]? = some (.cells (cellsL l).toArray t (0, 0))) : Row w t g l :=
  ⟨_, h, by simp [cellsL_length], fun j hj => by rw [List.getElem?_toArray, cellsL_get, if_pos hj]⟩

/-- Cells of entries that lie somewhere. -/
theorem Lies.cells {w : World} {b off : Nat} {l : List (Int × Int)} (h : Lies w b off l) : ∀ j v, (cellsL l)[j]? = some v → w.cell? ((⟨b, off, none⟩ : Addr).add j) = some v := by
  intro j v hv
  rw [cellsL_get] at hv
  by_cases hj : j < l.length * 2
  · rw [if_pos hj] at hv
    obtain ⟨q, hq⟩ := two_forms j
    have e : v = entF l j := by simpa using hv.symm
    subst e
    rw [Addr.add_lit]
    rcases hq with rfl | rfl
    · rw [entF_even]; exact (h q (by omega)).1
    · rw [entF_odd, ← Nat.add_assoc]; exact (h q (by omega)).2
  · rw [if_neg hj] at hv; cases hv

/-! ### What may have turned -/
/-- Of the blocks that w has, those outside D are in w' as they were; the streams are as they were. -/
structure Chg (D : Nat → Prop) (w w' : World) : Prop where
  os : w'.os = w.os
  tape : w'.tape = w.tape
  output : w'.output = w.output
  size : w.heap.size ≤ w'.heap.size
  block : ∀ k, k < w.heap.size → ¬ D k → w'.heap[k]? = w.heap[k]?

theorem Chg.refl (D : Nat → Prop) (w : World) : Chg D w w := ⟨rfl, rfl, rfl, Nat.le_refl _, fun _ _ _ => rfl⟩
theorem Chg.trans {D : Nat → Prop} {a b c : World} (h : Chg D a b) (k : Chg D b c) : Chg D a c :=
  ⟨k.os.trans h.os, k.tape.trans h.tape, k.output.trans h.output, Nat.le_trans h.size k.size, fun i hi hd => (k.block i (Nat.lt_of_lt_of_le hi h.size) hd).trans (h.block i hi hd)⟩
/-- A second step may turn what the first made. -/
theorem Chg.trans' {D E : Nat → Prop} {a b c : World} (h : Chg D a b) (k : Chg E b c) (hd : ∀ j, j < a.heap.size → E j → D j) : Chg D a c :=
  ⟨k.os.trans h.os, k.tape.trans h.tape, k.output.trans h.output, Nat.le_trans h.size k.size, fun i hi hn => (k.block i (Nat.lt_of_lt_of_le hi h.size) fun he => hn (hd i hi he)).trans (h.block i hi hn)⟩
theorem Chg.mono {D E : Nat → Prop} {a b : World} (h : Chg D a b) (hd : ∀ k, k < a.heap.size → D k → E k) : Chg E a b := ⟨h.os, h.tape, h.output, h.size, fun i hi he => h.block i hi fun d => he (hd i hi d)⟩
theorem Chg.alloc {D : Nat → Prop} {a w : World} (h : Chg D a w) (o : Obj) : Chg D a (w.alloc o) :=
  h.trans ⟨rfl, rfl, rfl, by simp, fun k hk _ => Below.heap_alloc _ _ _ hk⟩
theorem Chg.drewN {D : Nat → Prop} {a w : World} (h : Chg D a w) (n : Nat) : Chg D a (w.drewN n) := ⟨h.os, h.tape, h.output, h.size, h.block⟩
theorem Chg.drew {D : Nat → Prop} {a w : World} (h : Chg D a w) : Chg D a w.drew := ⟨h.os, h.tape, h.output, h.size, h.block⟩
theorem Chg.setCell {D : Nat → Prop} {a w : World} (h : Chg D a w) {p : Addr} (hp : D p.block) (u : Value) : Chg D a (w.setCell p u) :=
  h.trans ⟨rfl, rfl, rfl, by simp [World.setCell], fun k _ hd => Below.heap_setCell _ _ _ _ (fun e => hd (e ▸ hp))⟩
theorem Chg.setNew {D : Nat → Prop} {a w : World} (h : Chg D a w) {p : Addr} (hp : a.heap.size ≤ p.block) (u : Value) : Chg D a (w.setCell p u) :=
  ⟨h.os, h.tape, h.output, by simpa [World.setCell] using h.size, fun k hk hd => (Below.heap_setCell _ _ _ _ (by omega)).trans (h.block k hk hd)⟩
theorem Chg.setOr {D : Nat → Prop} {a w : World} (h : Chg D a w) {p : Addr} (hp : D p.block ∨ a.heap.size ≤ p.block) (u : Value) : Chg D a (w.setCell p u) := by
  rcases hp with hp | hp
  · exact h.setCell hp u
  · exact h.setNew hp u
theorem Chg.below {D : Nat → Prop} {a b : World} (h : Chg D a b) {B : Nat} (hB : B ≤ a.heap.size) (hd : ∀ k, D k → B ≤ k) : Below B a b :=
  ⟨h.os, h.tape, h.output, h.size, fun k hk => h.block k (Nat.lt_of_lt_of_le hk hB) fun d => absurd (hd k d) (by omega)⟩
theorem Chg.of_below {a b : World} (h : Below a.heap.size a b) (D : Nat → Prop) : Chg D a b := ⟨h.os, h.tape, h.output, h.size, fun k hk _ => h.block k hk⟩
theorem Chg.row {D : Nat → Prop} {a b : World} (h : Chg D a b) {t g : Nat} {l : List (Int × Int)} (hr : Row a t g l) (hd : ¬ D g) : Row b t g l := hr.of_block (h.block g hr.lt hd)
theorem Chg.setRow {D : Nat → Prop} {a w : World} (h : Chg D a w) {g : Nat} (hg : D g) (cs : Array Value) : Chg D a (w.setRow g cs) :=
  h.trans ⟨rfl, rfl, rfl, by simp [World.setRow], fun k _ hd => setRow_other _ _ _ _ (fun e => hd (e ▸ hg))⟩
theorem Chg.lies {D : Nat → Prop} {a b : World} (h : Chg D a b) {c off : Nat} {l : List (Int × Int)} (hl : Lies a c off l) (hd : ¬ D c) : Lies b c off l := by
  intro i hi
  obtain ⟨h0, h1⟩ := hl i hi
  have hlt := World.block_lt_of_cell? a _ h0
  have := h.block c hlt hd
  exact ⟨(World.cell?_of_block (w := a) this).trans h0, (World.cell?_of_block (w := a) this).trans h1⟩

/-! ### The builtins -/
theorem info41_parts : ∃ i, Try.prog.info? 41 = some i ∧ i.zero = some (.agg #[.int .i64 0, .int .u64 0]) ∧ i.size = 2 ∧ i.bytes = 16 := by
  obtain ⟨i, hi, hzz⟩ := Option.map_eq_some_iff.1 Try.info41
  simp only [Prod.mk.injEq] at hzz
  exact ⟨i, hi, hzz.1, hzz.2.1, hzz.2.2⟩

theorem zeroCells_eq (n : Nat) : Builtin.zeroCells #[.int .i64 0, .int .u64 0] n = (cellsL (List.replicate n (0, 0))).toArray := by
  apply Array.ext_getElem?
  intro j
  rw [List.getElem?_toArray (xs := cellsL (List.replicate n (0, 0))), cellsL_get, List.length_replicate]
  unfold entF
  rw [eP_rep, eN_rep]
  by_cases hj : j < n * 2
  · rw [if_pos hj]
    rcases Nat.mod_two_eq_zero_or_one j with h | h <;> simp [Builtin.zeroCells, hj, h]
  · rw [if_neg hj]
    simp [Builtin.zeroCells]; omega

/-- copy into a row: L's entries from d on are overwritten by xs. -/
theorem run_copy2 (w : World) (sT ty : TypeId) (g d dLen dCap : Nat) (b off sLen sCap : Nat) (L xs : List (Int × Int)) (hr : Row w 41 g L) (hn : xs.length = Nat.min sLen dLen) (hs : Lies w b off xs) (hfit : d + xs.length ≤ L.length) :
    ∃ W, (Builtin.copy_ #[27, sT] ty #[.slice (some ⟨g, d * 2, none⟩) dLen dCap, .slice (some ⟨b, off, none⟩) sLen sCap]).run Try.prog w = .ok (goInt xs.length) W ∧
      Row W 41 g (L.take d ++ xs ++ L.drop (d + xs.length)) ∧ Chg (· = g) w W := by
  obtain ⟨i, hi, _, hsz, _⟩ := info41_parts
  have hg := hr.heap
  have hl := run_loadCells_list (P := Try.prog) w ⟨b, off, none⟩ (cellsL xs) hs.cells
  have hst := run_storeCells_at Try.prog g (d * 2) 41 (cellsL xs) 0 (cellsL L).toArray w hg (by simp [cellsL_length]; omega) (cellsL_one xs)
  refine ⟨w.setRow g (cellsL (L.take d ++ xs ++ L.drop (d + xs.length))).toArray, ?_, Row.of (setRow_heap w g _ _ 41 _ hg), (Chg.refl (· = g) _).setRow (g := g) rfl _⟩
  have e : (List.take (d * 2 + 0) (cellsL L).toArray.toList ++ cellsL xs ++ List.drop (d * 2 + 0 + (cellsL xs).length) (cellsL L).toArray.toList) = cellsL (L.take d ++ xs ++ L.drop (d + xs.length)) := by
    rw [cellsL_append, cellsL_append, cellsL_take, cellsL_drop, cellsL_length, Nat.add_mul]
    simp
  rw [e] at hst
  rw [cellsL_length] at hl
  simp [Builtin.copy_, run_underlying Try.underlying27, Builtin.lenOf, Builtin.firstCells, sizeOf, typeInfo, hi, hsz, ← hn, hl, hst]

/-- What is known of the slice that is appended to: nil, or a row whose first n entries are xs. -/
def Base (w : World) (base : Option Addr) (n c : Nat) (xs : List (Int × Int)) : Prop :=
  (base = none ∧ n = 0 ∧ c = 0 ∧ xs = []) ∨ ∃ g, base = some ⟨g, 0, none⟩ ∧ xs.length = n ∧ Lies w g 0 xs

theorem Base.first {w : World} {base : Option Addr} {n c : Nat} {xs : List (Int × Int)} (h : Base w base n c xs) : (Builtin.firstCells 2 n (.slice base n c)).run Try.prog w.drew = .ok (cellsL xs).toArray w.drew := by
  rcases h with ⟨rfl, rfl, rfl, rfl⟩ | ⟨g, rfl, hl, hs⟩
  · exact run_firstCells_none w.drew 2 0 0 0
  · exact run_firstCells_some w.drew 2 n _ n c (cellsL xs) (by rw [cellsL_length, hl]) (by simpa using hs.cells)

/-- append(s, make([]E, k)...): a new row: the old entries, k zeros, zeros up to the new capacity. -/
theorem run_zeros_grow (w : World) (ty : TypeId) (base : Option Addr) (n c k : Nat) (xs : List (Int × Int)) (h : Base w base n c xs) (h0 : 0 < k) (hc : c < n + k) (hb : n + k ≤ 10000000) :
    ∃ cap W, (Builtin.append_ #[27, 3] ty #[.slice base n c, .int .i64 (k : Int)]).run Try.prog w = .ok (.slice (some ⟨w.heap.size, 0, none⟩) (n + k) cap) W ∧
      n + k ≤ cap ∧ cap ≤ maxLen ∧ Row W 41 w.heap.size (xs ++ List.replicate (cap - n) (0, 0)) ∧ Chg (fun _ => False) w W ∧ W.heap.size = w.heap.size + 1 := by
  obtain ⟨i, hi, hz, hsz, hby⟩ := info41_parts
  have hf := h.first
  have hn : ¬ (k * 2 = 0) := by omega
  have hw : IntKind.i64.wrap (k : Int) = k := by rw [IntKind.wrap_i64]; omega
  have hneg : ¬ ((k : Int) < 0) := by omega
  have hroom : ¬ (n + k ≤ c) := by omega
  have h63' : ¬ (9223372036854775807 < ((n : Int) + (k : Int))) := by omega
  have h48i : ¬ (281474976710656 < (k : Int) * 16) := by omega
  have h48' : ¬ (281474976710656 < Builtin.nextslicecap (n + k) c * 16) := by have := growslice_fits (bytes := 16) hc (by omega); omega
  have hge := grownCap_ge w (n + k) c 41
  have hle := grownCap_le_maxLen w (n + k) c 41 (by simp only [maxLen]; omega)
  refine ⟨grownCap w (n + k) c 41, w.drew.alloc (.cells (cellsL (xs ++ List.replicate (grownCap w (n + k) c 41 - n) (0, 0))).toArray 41), ?_, hge, hle, Row.of (heap_alloc_new w.drew _), (Chg.refl _ _).drew.alloc _, by simp⟩
  have e : cellsL (xs ++ List.replicate (grownCap w (n + k) c 41 - n) (0, 0)) = cellsL xs ++ (cellsL (List.replicate k (0, 0)) ++ cellsL (List.replicate (grownCap w (n + k) c 41 - (n + k)) (0, 0))) := by
    rw [cellsL_append, ← cellsL_append (List.replicate k (0, 0)), List.replicate_append_replicate, show k + (grownCap w (n + k) c 41 - (n + k)) = grownCap w (n + k) c 41 - n by omega]
  rw [e]
  simp [Builtin.append_, run_underlying Try.underlying27, run_underlying Try.underlying3, sizeOf, typeInfo, zeroValue, hi, hz, hsz, hby, asInt, asIntOf, hw, hn, hneg, hroom, h63', h48', h48i, Question.forced, newRow, Value.cells, zeroCells_eq, hf, grownCap]

/-- append(s, e): no room: a new row. -/
theorem run_one_grow (w : World) (ty : TypeId) (base : Option Addr) (n c vb : Nat) (xs : List (Int × Int)) (p q : Int) (h : Base w base n c xs) (hv : Lies w vb 0 [(p, q)]) (hc : c < n + 1) (hb : n + 1 ≤ 10000000) :
    ∃ cap W, (Builtin.append_ #[27, 26] ty #[.slice base n c, .slice (some ⟨vb, 0, none⟩) 1 1]).run Try.prog w = .ok (.slice (some ⟨w.heap.size, 0, none⟩) (n + 1) cap) W ∧
      n + 1 ≤ cap ∧ cap ≤ maxLen ∧ Row W 41 w.heap.size (xs ++ (p, q) :: List.replicate (cap - (n + 1)) (0, 0)) ∧ Chg (fun _ => False) w W ∧ W.heap.size = w.heap.size + 1 := by
  obtain ⟨i, hi, hz, hsz, hby⟩ := info41_parts
  have hf := h.first
  have hfv := run_firstCells_some (P := Try.prog) w.drew 2 1 ⟨vb, 0, none⟩ 1 1 (cellsL [(p, q)]) rfl (by simpa using hv.cells)
  have hroom : ¬ (n + 1 ≤ c) := by omega
  have h63' : ¬ (9223372036854775807 < ((n : Int) + 1)) := by omega
  have h48' : ¬ (281474976710656 < Builtin.nextslicecap (n + 1) c * 16) := by have := growslice_fits (bytes := 16) hc (by omega); omega
  have hge := grownCap_ge w (n + 1) c 41
  have hle := grownCap_le_maxLen w (n + 1) c 41 (by simp only [maxLen]; omega)
  refine ⟨grownCap w (n + 1) c 41, w.drew.alloc (.cells (cellsL (xs ++ (p, q) :: List.replicate (grownCap w (n + 1) c 41 - (n + 1)) (0, 0))).toArray 41), ?_, hge, hle, Row.of (heap_alloc_new w.drew _), (Chg.refl _ _).drew.alloc _, by simp⟩
  have e : cellsL (xs ++ (p, q) :: List.replicate (grownCap w (n + 1) c 41 - (n + 1)) (0, 0)) = cellsL xs ++ (cellsL [(p, q)] ++ cellsL (List.replicate (grownCap w (n + 1) c 41 - (n + 1)) (0, 0))) := by
    rw [cellsL_append]; rfl
  rw [e]
  simp [Builtin.append_, run_underlying Try.underlying27, run_underlying Try.underlying26, sizeOf, typeInfo, zeroValue, hi, hz, hsz, hby, Builtin.lenOf, hroom, h63', h48', Question.forced, newRow, Value.cells, zeroCells_eq, hf, hfv, grownCap]

/-- append(s, e): there is room: in place. -/
theorem run_one_room (w : World) (ty : TypeId) (g n c vb : Nat) (L : List (Int × Int)) (p q : Int) (h : Row w 41 g L) (hv : Lies w vb 0 [(p, q)]) (hl : L.length = c) (hc : n + 1 ≤ c) :
    ∃ W, (Builtin.append_ #[27, 26] ty #[.slice (some ⟨g, 0, none⟩) n c, .slice (some ⟨vb, 0, none⟩) 1 1]).run Try.prog w = .ok (.slice (some ⟨g, 0, none⟩) (n + 1) c) W ∧
      Row W 41 g (L.take n ++ [(p, q)] ++ L.drop (n + 1)) ∧ Chg (· = g) w W := by
  obtain ⟨i, hi, hz, hsz, hby⟩ := info41_parts
  have hg := h.heap
  have hfv := run_firstCells_some (P := Try.prog) w 2 1 ⟨vb, 0, none⟩ 1 1 (cellsL [(p, q)]) rfl (by simpa using hv.cells)
  have hst := run_storeCells_at Try.prog g (n * 2) 41 (cellsL [(p, q)]) 0 (cellsL L).toArray w hg (by simp [cellsL_length]; omega) (cellsL_one _)
  refine ⟨w.setRow g (cellsL (L.take n ++ [(p, q)] ++ L.drop (n + 1))).toArray, ?_, Row.of (setRow_heap w g _ _ 41 _ hg), (Chg.refl (· = g) _).setRow (g := g) rfl _⟩
  have e : (List.take (n * 2 + 0) (cellsL L).toArray.toList ++ cellsL [(p, q)] ++ List.drop (n * 2 + 0 + (cellsL [(p, q)]).length) (cellsL L).toArray.toList) = cellsL (L.take n ++ [(p, q)] ++ L.drop (n + 1)) := by
    rw [cellsL_append, cellsL_append, cellsL_take, cellsL_drop, cellsL_length, Nat.add_mul]
    simp
  rw [e] at hst
  have hadd : (⟨g, 0, none⟩ : Addr).add (n * 2) = ⟨g, n * 2, none⟩ := by rw [Addr.add_lit]; simp
  simp [Builtin.append_, run_underlying Try.underlying27, run_underlying Try.underlying26, sizeOf, typeInfo, hi, hsz, Builtin.lenOf, hc, hfv, hadd, hst]

/-- slices.overlaps at two blocks of entries: they don't. -/
theorem run_overlaps (w : World) (vb g o la ca lb cb : Nat) (V L : List (Int × Int)) (hv : Row w 41 vb V) (hr : Row w 41 g L) (hne : vb ≠ g) (hL : L ≠ []) :
    (callFunc 25 #[.slice (some ⟨vb, 0, none⟩) la ca, .slice (some ⟨g, o, none⟩) lb cb]).run Try.prog w = .ok (.value (.bool false)) w := by
  obtain ⟨i, hi, hz, hsz, hby⟩ := info41_parts
  have s1 : w.shape? vb = some (41, (cellsL V).toArray.size) := by simp [World.shape?, hv.heap]
  have s2 : w.shape? g = some (41, (cellsL L).toArray.size) := by simp [World.shape?, hr.heap]
  rw [run_callFunc_extern Try.func25 (by kernel_rfl) (by kernel_rfl) (by kernel_rfl) (e := Extern.SlicesOverlaps.overlaps #[26, 26] #[4]) (by kernel_rfl),
    Lib.run_overlaps_apart w 26 4 41 Try.underlying26 2 (fun w => by simp [sizeOf, typeInfo, hi, hsz]) ⟨vb, 0, none⟩ ⟨g, o, none⟩ la ca lb cb hne 41 41 _ _ s1 s2
      (by simp [cellsL_length]; intro h; exact hL (List.eq_nil_of_length_eq_zero (by omega))) (by simp [World.frozen?, hv.heap]) (by simp [World.frozen?, hv.heap])]
  rfl

end Go.Proofs.Qxb6604789a
