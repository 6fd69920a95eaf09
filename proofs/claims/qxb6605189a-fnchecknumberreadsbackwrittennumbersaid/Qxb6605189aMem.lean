/-
  SLICES OF BYTES IN MEMORY; rows of bytes that the call itself made, appended to.
-/
import Derived.Test.Qxb6605189aRows
import Derived.WalkKit
import Derived.WalkSpells
import Derived.WalkLawsBesides
import Derived.Outline
import Derived.Below
import Derived.Deep.OwnRows
import Derived.Laws.AppendOwnNone
import Derived.Deep.DeepCutAuto
namespace Go.Proofs.Qxb6605189a
open Go.RowKit

/-- The bytes l lie in block b from offset off on. -/
def BLies (w : World) (b off : Nat) (l : List Int) : Prop := ∀ i, i < l.length → w.cell? ⟨b, off + i, none⟩ = some (.int .u8 (l.getD i 0))

/-- A slice at address a holds the bytes l. -/
def BIs (w : World) (a : Option Addr) (l : List Int) : Prop := l.length ≤ 4000000 ∧ (l ≠ [] → ∃ b off, a = some ⟨b, off, none⟩ ∧ BLies w b off l)

theorem ne_nil_of {α : Type} {l : List α} {k : Nat} (h : k < l.length) : l ≠ [] := by
  intro h0; subst h0; simp at h

theorem BIs.at {w : World} {a : Option Addr} {l : List Int} (h : BIs w a l) {k : Nat} (hk : k < l.length) : ∃ b off, a = some ⟨b, off, none⟩ ∧ BLies w b off l := h.2 (ne_nil_of hk)

theorem BLies.below {w w' : World} {b off : Nat} {l : List Int} (h : BLies w b off l) (hb : Below w.heap.size w w') : BLies w' b off l := by
  intro i hi
  have h0 := h i hi
  exact (hb.cell (p := ⟨b, off + i, none⟩) (World.block_lt_of_cell? w _ h0)).trans h0

theorem BLies.take {w : World} {b off : Nat} {l : List Int} (h : BLies w b off l) (n : Nat) : BLies w b off (l.take n) := by
  intro i hi
  have hi' : i < n ∧ i < l.length := by simp at hi; omega
  have e : (l.take n).getD i 0 = l.getD i 0 := by simp [List.getD, hi'.1]
  rw [e]
  exact h i hi'.2

theorem BIs.below {w w' : World} {a : Option Addr} {l : List Int} (h : BIs w a l) (hb : Below w.heap.size w w') : BIs w' a l :=
  ⟨h.1, fun hl => by obtain ⟨b, off, e, hc⟩ := h.2 hl; exact ⟨b, off, e, hc.below hb⟩⟩

theorem BIs.of_heap {w w' : World} {a : Option Addr} {l : List Int} (h : BIs w a l) (e : w'.heap = w.heap) : BIs w' a l :=
  ⟨h.1, fun hl => by
    obtain ⟨b, off, ea, hc⟩ := h.2 hl
    exact ⟨b, off, ea, fun i hi => (World.cell?_of_block (w := w) (by rw [e])).trans (hc i hi)⟩⟩

theorem BIs.alloc {w : World} {a : Option Addr} {l : List Int} (h : BIs w a l) (o : Obj) : BIs (w.alloc o) a l := h.below ((Below.refl _ _).alloc (Nat.le_refl _) _)

/-- The cells of a list of bytes. -/
def bytesV (l : List Int) : List Value := l.map (fun c => .int .u8 c)
theorem bytesV_append (l m : List Int) : bytesV (l ++ m) = bytesV l ++ bytesV m := by simp [bytesV]
theorem bytesV_one (l : List Int) : ∀ v ∈ bytesV l, v.oneCell' = true := by
  intro v hv
  obtain ⟨c, _, rfl⟩ := List.mem_map.1 hv
  rfl

/-- A row of the call's own: its first bytes are O. -/
def BOwn (w : World) (B : Nat) (v : Value) (O : List Int) : Prop := w.ownsRow B 5 1 v O.length (bytesV O)

theorem info5_parts : ∃ i, Try.prog.info? 5 = some i ∧ i.zero = some (.int .u8 0) ∧ i.size = 1 ∧ i.bytes = 1 := by
  have h : (Try.prog.info? 5).map (fun i => (i.zero, i.size, i.bytes)) = some (some (.int .u8 0), 1, 1) := by kernel_rfl
  obtain ⟨i, hi, hzz⟩ := Option.map_eq_some_iff.1 h
  simp only [Prod.mk.injEq] at hzz
  exact ⟨i, hi, hzz.1, hzz.2.1, hzz.2.2⟩

theorem BOwn.alloc {w : World} {B : Nat} {v : Value} {O : List Int} (h : BOwn w B v O) (o : Obj) : BOwn (w.alloc o) B v O := World.ownsRow.alloc h o

theorem BOwn.slice {w : World} {B : Nat} {v : Value} {O : List Int} (h : BOwn w B v O) (hl : O.length ≤ 4000000) : ∃ a cap, v = .slice a O.length cap ∧ O.length ≤ cap ∧ cap ≤ maxLen ∧ BIs w a O := by
  obtain ⟨h1, h2⟩ := h
  rcases h2 with ⟨rfl, h3⟩ | ⟨g, cap, cur, rfl, _, hg, hnc, hcm, hsz, htk⟩
  · have := List.eq_nil_of_length_eq_zero h3
    subst this
    exact ⟨none, 0, rfl, Nat.le_refl _, Nat.zero_le _, by simp, fun h => absurd rfl h⟩
  · refine ⟨_, cap, rfl, hnc, hcm, hl, fun _ => ⟨g, 0, rfl, fun i hi => ?_⟩⟩
    have h5 : (cur.toList.take (O.length * 1))[i]? = some (.int .u8 (O.getD i 0)) := by
      rw [htk]; simp [bytesV, hi, List.getD]
    rw [List.getElem?_take, if_pos (by omega)] at h5
    simp only [World.cell?, hg, Nat.zero_add]
    simpa using h5

/-- append(text, xs...), xs lying anywhere. -/
theorem appB (w : World) {ops : Array Oper} {rest : List Oper} {o : Oper} {a : Act} {Q : Exit → Act → World → Prop} (hgd : o.guard = none) (s x : Operand) (ho : o.op = .call { callee := .builtin .append, args := #[s, x], argTypes := #[22, 22] })
    (B : Nat) (ov : Value) (O : List Int) (hs : a.eval s = ov) (hown : BOwn w B ov O) (ax : Option Addr) (n c : Nat) (xs : List Int) (hx : a.eval x = .slice ax n c) (hn : xs.length = n) (hsrc : BIs w ax xs) (hnil : ax = none → c = 0) (hl : O.length ≤ 4000000) (hB : B ≤ w.heap.size)
    (h : ∀ v' w', BOwn w' B v' (O ++ xs) → Below B w w' → wpList Try.prog ops Q rest (a.put o.dst v') w') : wpList Try.prog ops Q (o :: rest) a w := by
  obtain ⟨ti, hti, htz, hts, htb⟩ := info5_parts
  have hxl := hsrc.1
  subst hn
  have fin : ∀ v' w', w'.ownsRow B 5 1 v' (O.length + xs.length) (bytesV O ++ bytesV xs) → w.grownBy w' ov.ownBlock → wpList Try.prog ops Q rest (a.put o.dst v') w' := by
    intro v' w' h1 h2
    refine h v' w' ?_ ((Below.refl B w).grown h2 hB (fun k hk => (World.ownsRow.lt hown k hk).1))
    unfold BOwn
    rw [bytesV_append, List.length_append]
    exact h1
  cases ax with
  | none =>
    have h0 : xs = [] := Classical.byContradiction fun hne => by obtain ⟨_, _, e, _⟩ := hsrc.2 hne; cases e
    subst h0
    have hc := hnil rfl
    subst hc
    exact wpList_append_own_none hgd s x 22 ho B 5 ti 1 Try.underlying22 hti ov O.length (bytesV O) hs hown hx (h ov w (by rw [List.append_nil]; exact hown) (Below.refl _ _))
  | some ad =>
    refine wpList_append_own w hgd s x 22 ho B 5 ti _ 1 1 Try.underlying22 hti htz hts htb rfl (by omega) ov O.length (bytesV O) hs hown ad xs.length c (bytesV xs) hx (by simp [bytesV]) ?_ (bytesV_one _) (by simp only [maxLen]; omega) (by omega) hB (fun v' w' h1 h2 _ => fin v' w' h1 h2)
    intro j u hu
    have hj : j < xs.length := by
      have := (List.getElem?_eq_some_iff.1 hu).1
      simpa [bytesV] using this
    obtain ⟨b, off, e, hl⟩ := hsrc.at hj
    obtain rfl : ad = ⟨b, off, none⟩ := by simpa using e
    rw [Addr.add_lit, hl j hj]
    simpa [bytesV, hj, List.getD] using hu

/-- A block that has just been laid, of bytes. -/
theorem bis_new (w : World) (l : List Int) (hl : l.length ≤ 4000000) : BIs (w.alloc (.cells (bytesV l).toArray 5)) (some ⟨w.heap.size, 0, none⟩) l := by
  refine ⟨hl, fun _ => ⟨w.heap.size, 0, rfl, fun i hi => ?_⟩⟩
  simp only [World.cell?, heap_alloc_new w _, Nat.zero_add]
  simp [bytesV, hi, List.getD]

/-- make([]byte, 0, n). -/
theorem run_makeB (n : Nat) (h : n ≤ 10000000) (w : World) : (Instr.makeSlice 22 (.int .i64 0) (.int .i64 (n : Int))).run Try.prog w = .ok (.slice (some ⟨w.heap.size, 0, none⟩) 0 n) (w.alloc (.cells (madeCells #[.int .u8 0] n) 5)) := by
  obtain ⟨i, hi, hz, hs, hb⟩ := info5_parts
  have hr := run_make (P := Try.prog) w 22 5 i _ Try.underlying22 hi hz .i64 .i64 0 n (by omega) (by omega) (by rw [hb]; omega) (by omega)
  simp only [Int.toNat_natCast, hs, Nat.mul_one, Int.toNat_zero] at hr
  exact hr

theorem own_made (w : World) (n : Nat) (h : n ≤ maxLen) : BOwn (w.alloc (.cells (madeCells #[.int .u8 0] n) 5)) w.heap.size (.slice (some ⟨w.heap.size, 0, none⟩) 0 n) [] :=
  World.ownsRow_made w _ n (Nat.le_refl _) h (by rw [size_madeCells, Nat.mul_one])

/-- What is told of a slice of bytes that came in. -/
def BCame (w : World) (a : Option Addr) (n cap : Nat) : Prop :=
  n ≤ cap ∧ cap ≤ maxLen ∧ (a = none → cap = 0) ∧ ∃ l : List Int, l.length = n ∧ (∀ c ∈ l, 0 ≤ c ∧ c ≤ 255) ∧ (n ≤ 4000000 → BIs w a l)

end Go.Proofs.Qxb6605189a
