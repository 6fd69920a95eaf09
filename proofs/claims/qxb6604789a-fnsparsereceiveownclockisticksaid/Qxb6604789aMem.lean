/-
  HOW A SLICE OF ENTRIES LIES IN MEMORY. Two cells an entry.
-/
import Derived.Test.Qxb6604789aPlain
import Derived.Test.Qxb6604789aRows
import Derived.WalkKit
import Derived.WalkSpells
import Derived.WalkLawsBesides
import Derived.Deep.QuietTactic
import Derived.BigQuiet
import Derived.Outline
namespace Go.Proofs.Qxb6604789a
open Go.RowKit

/-- The entries l lie in block b from offset off on. -/
def Lies (w : World) (b off : Nat) (l : List (Int × Int)) : Prop :=
  ∀ i, i < l.length → w.cell? ⟨b, off + i * 2, none⟩ = some (.int .i64 (eP l i)) ∧ w.cell? ⟨b, off + i * 2 + 1, none⟩ = some (.int .u64 (eN l i))

/-- A slice at address a holds the entries l (an empty one may lie anywhere). -/
def SlIs (w : World) (a : Option Addr) (l : List (Int × Int)) : Prop :=
  l.length ≤ 1000000 ∧ (l ≠ [] → ∃ b off, a = some ⟨b, off, none⟩ ∧ Lies w b off l)

theorem drewN_two (w : World) (a b : Nat) : (w.drewN a).drewN b = w.drewN (a + b) := World.drewN_drewN ..

theorem ne_nil_of {l : List (Int × Int)} {k : Nat} (h : k < l.length) : l ≠ [] := by
  intro h0; subst h0; simp at h

theorem SlIs.at {w : World} {a : Option Addr} {l : List (Int × Int)} (h : SlIs w a l) {k : Nat} (hk : k < l.length) : ∃ b off, a = some ⟨b, off, none⟩ ∧ Lies w b off l := h.2 (ne_nil_of hk)

theorem SlIs.drewN {w : World} {a : Option Addr} {l : List (Int × Int)} (h : SlIs w a l) (n : Nat) : SlIs (w.drewN n) a l :=
  ⟨h.1, fun hl => by obtain ⟨b, off, e, hc⟩ := h.2 hl; exact ⟨b, off, e, fun i hi => by simpa using hc i hi⟩⟩

/-- The cells of an old slice read as they did. -/
theorem Lies.below {w w' : World} {b off : Nat} {l : List (Int × Int)} (h : Lies w b off l) (hb : Below w.heap.size w w') : Lies w' b off l := by
  intro i hi
  obtain ⟨h0, h1⟩ := h i hi
  have hlt := World.block_lt_of_cell? w _ h0
  exact ⟨(hb.cell (p := ⟨b, off + i * 2, none⟩) hlt).trans h0, (hb.cell (p := ⟨b, off + i * 2 + 1, none⟩) hlt).trans h1⟩

theorem SlIs.below {w w' : World} {a : Option Addr} {l : List (Int × Int)} (h : SlIs w a l) (hb : Below w.heap.size w w') : SlIs w' a l :=
  ⟨h.1, fun hl => by obtain ⟨b, off, e, hc⟩ := h.2 hl; exact ⟨b, off, e, hc.below hb⟩⟩

theorem SlIs.of_heap {w w' : World} {a : Option Addr} {l : List (Int × Int)} (h : SlIs w a l) (e : w'.heap = w.heap) : SlIs w' a l :=
  ⟨h.1, fun hl => by
    obtain ⟨b, off, ea, hc⟩ := h.2 hl
    exact ⟨b, off, ea, fun i hi => ⟨(World.cell?_of_block (w := w) (by rw [e])).trans (hc i hi).1, (World.cell?_of_block (w := w) (by rw [e])).trans (hc i hi).2⟩⟩⟩

theorem SlIs.alloc {w : World} {a : Option Addr} {l : List (Int × Int)} (h : SlIs w a l) (o : Obj) : SlIs (w.alloc o) a l :=
  h.below ((Below.refl _ _).alloc (Nat.le_refl _) _)

/-- A part of a slice. -/
theorem Lies.part {w : World} {b off : Nat} {l : List (Int × Int)} (h : Lies w b off l) (k n : Nat) : Lies w b (off + k * 2) ((l.drop k).take n) := by
  intro i hi
  have hi' : i < n ∧ k + i < l.length := by simp at hi; omega
  have e1 : eP ((l.drop k).take n) i = eP l (k + i) := by simp [eP, List.getD, hi'.1]
  have e2 : eN ((l.drop k).take n) i = eN l (k + i) := by simp [eN, List.getD, hi'.1]
  rw [e1, e2]
  have := h (k + i) hi'.2
  rwa [show off + (k + i) * 2 = off + k * 2 + i * 2 by omega] at this

theorem below_drewN {B : Nat} {a w : World} (h : Below B a w) (n : Nat) : Below B a (w.drewN n) := ⟨h.os, h.tape, h.output, h.size, h.block⟩

/-- A callee that only draws, met in a world that has drawn A + n. -/
theorem quiet_at {P : Program} {f : FuncId} {args : Array Value} {w : World} {A n : Nat} {v : Value}
    (h : Calls P f args (w.drewN (A + n)) fun e w' => e = .returned v ∧ ∃ m, w' = (w.drewN (A + n)).drewN m) : Calls P f args (w.drewN (A + n)) fun e w'' => e = .returned v ∧ ∃ m, w'' = w.drewN (A + m) :=
  h.mono fun _ _ ⟨he, m, hm⟩ => ⟨he, n + m, by rw [hm, World.drewN_drewN, Nat.add_assoc]⟩

end Go.Proofs.Qxb6604789a
