/-
  WALK: toClock.
-/
import Derived.Test.Qxb6604789aOwn
import Derived.RegionTactic
import Derived.BigRegion
import Derived.ChangeAlike
namespace Go.Proofs.Qxb6604789a
open Go.RowKit

/-- What toClock hands back: nil; or a new row that holds just the entries. -/
def Fresh (w w' : World) (v : Value) (l : List (Int × Int)) : Prop :=
  (v = .slice none 0 0 ∧ l = []) ∨ ∃ g, v = .slice (some ⟨g, 0, none⟩) l.length l.length ∧ w.heap.size ≤ g ∧ Row w' 41 g l

theorem grow_step (l : List (Int × Int)) (k : Nat) (hk : k < l.length) :
    (l.take k ++ List.replicate (l.length - k) (0, 0)).set k (eP l k, eN l k) = l.take (k + 1) ++ List.replicate (l.length - (k + 1)) (0, 0) := by
  rw [List.set_append_right _ _ (by simp; omega), List.length_take, Nat.min_eq_left (by omega), Nat.sub_self, show l.length - k = (l.length - (k + 1)) + 1 by omega, List.replicate_succ, List.set_cons_zero,
    eP_get hk, eN_get hk]
  rw [List.take_succ_eq_append_getElem hk, List.append_assoc]
  rfl

set_option maxHeartbeats 1000000 in
set_option maxRecDepth 100000 in
theorem clock_any (a : Option Addr) (cap : Nat) (l : List (Int × Int)) (w : World) (h : SlIs w a l) :
    Calls Try.prog 9 #[.slice a l.length cap] w fun e w' => (∃ v, e = .returned v ∧ Fresh w w' v l) ∧ Below w.heap.size w w' := by
  have hlen := h.1
  cases a with
  | none =>
    have hl : l = [] := Classical.byContradiction fun hn => by obtain ⟨b, off, h0, _⟩ := h.2 hn; cases h0
    subst hl
    have h1 := fun w => Lib.run_eql_slice_nil (P := Try.prog) w 22 40 none 0 cap 0 0 Try.underlying22
    go_enter Try.func9, Try.ntmps9
    go_wp2
    go_ret
    exact ⟨⟨_, rfl, Or.inl ⟨rfl, rfl⟩⟩, Below.refl _ _⟩
  | some a =>
    have h1 := fun w => Lib.run_eql_slice_nil (P := Try.prog) w 22 40 (some a) l.length cap 0 0 Try.underlying22
    have hmk := run_make27 l.length l.length (Nat.le_refl _) (by omega)
    go_enter Try.func9, Try.ntmps9
    go_wp2
    go_loopw [4] (fun i wr => ∃ k : Nat, k ≤ l.length ∧ i = .int .i64 k ∧ Below w.heap.size w wr ∧ Row wr 41 w.heap.size (l.take k ++ List.replicate (l.length - k) (0, 0))) (fun i _ => l.length - (intOf i).toNat)
    case atStart => exact ⟨0, by omega, rfl, (Below.refl _ _).alloc (Nat.le_refl _) _, by simpa using Row.made w 41 l.length⟩
    case round =>
      obtain ⟨k, hk, rfl, hb, hr⟩ := hrel
      by_cases hlt : k < l.length
      · obtain ⟨b, off, hbo, hc⟩ := (h.below hb).at hlt
        obtain rfl : a = ⟨b, off, none⟩ := by simpa using hbo
        obtain ⟨c0, c1⟩ := hc k hlt
        have hbl : b < w.heap.size := by
          obtain ⟨b', off', hbo', hc'⟩ := h.at hlt
          have : b = b' := by simpa using congrArg (fun x : Option Addr => x.map Addr.block) hbo'
          subst this
          exact World.block_lt_of_cell? w _ (hc' k hlt).1
        have r0 := hr.cell0 (i := k) (by simp; omega)
        have r1 := hr.cell1 (i := k) (by simp; omega)
        have z0 := hr.frozen (k * 2)
        have z1 := hr.frozen (k * 2 + 1)
        have hp := hr.put (i := k) (by simp; omega) (eP l k) (eN l k)
        rw [grow_step l k hlt] at hp
        have HP : Hid (Row _ 41 w.heap.size (l.take (k + 1) ++ List.replicate (l.length - (k + 1)) (0, 0))) := hp
        clear hr hp
        have q0 : (0 : Int) ≤ (k : Int) := by omega
        have q1 : (k : Int) < (l.length : Int) := by omega
        go_wp2
        go_region
        go_wp2
        go_roundw
        case rel => exact ⟨k + 1, by omega, by go_num, (((hb.setCell (Nat.le_refl _) _).setCell (Nat.le_refl _) _).drew), HP.out⟩
        case measure => simp [intOf]; omega
      · go_wp2
        go_ret
        have : k = l.length := by omega
        subst this
        refine ⟨⟨_, rfl, Or.inr ⟨w.heap.size, rfl, Nat.le_refl _, ?_⟩⟩, hb⟩
        simpa using hr
end Go.Proofs.Qxb6604789a
