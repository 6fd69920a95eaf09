/-
  THE LAW FnSparseReceiveOwnClockIsTick: its walk.
-/
import Derived.Test.Qxb6604789aLawBase
namespace Go.Proofs.Qxb6604789a
open Go.RowKit

set_option maxHeartbeats 2000000 in
set_option maxRecDepth 100000 in
theorem law_own (a1 : Option Addr) (n1 cap1 : Nat) (p : Int) (w : World) (h1 : Came w a1 n1 cap1) :
    Calls Try.prog 6 #[.slice a1 n1 cap1, .int .i64 p] w fun e w' => e = .returned (.bool true) ∧ Below w.heap.size w w' := by
  have m1 : n1 ≤ maxLen := Nat.le_trans h1.1 h1.2.1
  have C1 : Hid (Came w a1 n1 cap1) := h1
  clear h1
  go_enter Try.func6, Try.ntmps6
  go_wp2_with fail
  refine (bytes19_any a1 n1 cap1 p _ m1).mono ?_
  rintro e w' ⟨⟨t, rfl⟩, rfl⟩
  cases t
  case false =>
    go_wp2_with fail
    go_ret
    exact ⟨rfl, Below.refl _ _⟩
  by_cases hb1 : 32768 < n1
  · have : (32768 : Int) < n1 := by omega
    go_wp2_with fail
    go_ret
    exact ⟨rfl, Below.refl _ _⟩
  obtain ⟨c, rfl, rc, sc⟩ := C1.out.slIs (by omega)
  clear C1
  have : ¬ (32768 : Int) < c.length := by omega
  go_wp2_with fail
  refine (wf_any a1 cap1 c _ sc).mono ?_
  rintro e w1 ⟨rfl, i1, rfl⟩
  cases hw1 : wfB c
  case false =>
    go_wp2_with fail
    go_ret
    exact ⟨rfl, below_drewN (Below.refl _ _) _⟩
  have GC := good_of_wfB rc hw1
  clear hw1
  go_wp2_with fail
  refine (clock_any a1 cap1 c _ (by exact sc.of_heap rfl)).mono ?_
  rintro e w3 ⟨⟨v1, rfl, f1⟩, b0⟩
  have b1 : Below w'.heap.size w' w3 := ⟨b0.os, b0.tape, b0.output, b0.size, b0.block⟩
  obtain ⟨av, rfl, hh, hav⟩ := f1.holds
  have hav' : ∀ g, av = some ⟨g, 0, none⟩ → w'.heap.size ≤ g := hav
  clear f1 b0 hav
  go_wp2_with fail
  have hx : Var (w3.alloc (.cells #[.slice av c.length c.length] 27)) w3.heap.size (.slice av c.length c.length) := heap_alloc_new w3 _
  refine (recv_any _ w'.heap.size w3.heap.size av av c.length p c c (by exact hx) (by exact hh.alloc _) hav' (by have := b1.size; simp; omega) (by exact ((hh.alloc _).slIs (by omega))) GC GC (by omega) (by omega) (Or.inr ⟨rfl, rfl⟩)).mono ?_
  rintro e w4 ⟨rfl, v2, F, hx4, hck, hsp, hFl, hch⟩
  have B4 : Below w'.heap.size w' w4 := (b1.alloc b1.size _).trans (hch.below (by have := b1.size; simp; omega) (fun k hk => by
    rcases hk with rfl | hk
    · exact b1.size
    · exact hav' k hk))
  have hsp' := rspec_self GC hsp
  obtain ⟨a2, c2, rfl, hs2⟩ := hck.slIs (by omega)
  have x4 := hx4.cell
  have hxl := hx4.lt
  have sc4 := sc.below B4
  have HH : Hid (RSpec c [] p F ∧ Below w'.heap.size w' w4 ∧ SlIs w4 a2 F ∧ SlIs w4 a1 c) := ⟨hsp', B4, hs2, sc4⟩
  clear hsp hsp' hch hck hx4 hx hh
  go_wp2_with fail
  go_region_held3 (fun w' => w'.cell? ⟨w3.heap.size, 0, none⟩ = some (.slice a2 F.length c2))
    (first | go_keep | (rw [b5.cell (p := ⟨w3.heap.size, 0, none⟩) (by simp; omega)]; first | assumption | simpa using x4))
    (first
      | (go_at_call 15; refine (model_at a1 none cap1 0 p c [] F _ (by exact HH.out.2.2.2.of_heap rfl) (SlIs.nil _) GC good_nil (by omega) (by simp) HH.out.1).mono ?_; rintro e w5 ⟨a3, c3, rfl, hs5, b5⟩)
      | (go_at_call 14; refine (same_any a2 a3 c2 c3 _ _ (by exact HH.out.2.2.1.below ⟨b5.os, b5.tape, b5.output, b5.size, b5.block⟩) (by exact hs5)).mono ?_; rintro e w6 ⟨rfl, i6, rfl⟩))
  go_wp2_with fail
  go_ret
  exact ⟨rfl, below_drewN (HH.out.2.1.trans (Below.mono ⟨b5.os, b5.tape, b5.output, b5.size, b5.block⟩ HH.out.2.1.size)) _⟩
end Go.Proofs.Qxb6604789a
