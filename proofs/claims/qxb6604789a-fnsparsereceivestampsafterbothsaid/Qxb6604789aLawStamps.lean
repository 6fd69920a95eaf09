/-
  THE LAW FnSparseReceiveStampsAfterBoth: its walk.
-/
import Derived.Test.Qxb6604789aLawBase
import Derived.Test.Qxb6604789aPlain4
namespace Go.Proofs.Qxb6604789a
open Go.RowKit

set_option maxHeartbeats 2000000 in
set_option maxRecDepth 100000 in
theorem law_stamps (a1 a2 : Option Addr) (n1 cap1 n2 cap2 : Nat) (p : Int) (w : World) (h1 : Came w a1 n1 cap1) (h2 : Came w a2 n2 cap2) :
    Calls Try.prog 5 #[.slice a1 n1 cap1, .int .i64 p, .slice a2 n2 cap2] w fun e w' => e = .returned (.bool true) ∧ Below w.heap.size w w' := by
  have m1 : n1 ≤ maxLen := Nat.le_trans h1.1 h1.2.1
  have m2 : n2 ≤ maxLen := Nat.le_trans h2.1 h2.2.1
  have C1 : Hid (Came w a1 n1 cap1) := h1
  have C2 : Hid (Came w a2 n2 cap2) := h2
  clear h1 h2
  go_enter Try.func5, Try.ntmps5
  go_wp2_with fail
  refine (bytes16_any a1 a2 n1 cap1 n2 cap2 p _ m1 m2).mono ?_
  rintro e w' ⟨⟨t, rfl⟩, rfl⟩
  cases t
  case false =>
    go_wp2_with fail
    go_ret
    exact ⟨rfl, Below.refl _ _⟩
  by_cases hb1 : 32768 < n1
  · have : (32768 : Int) < n1 := by omega
    go_wp2_with fail
    go_ret
    exact ⟨rfl, Below.refl _ _⟩
  by_cases hb2 : 32768 < n2
  · have : ¬ (32768 : Int) < n1 := by omega
    have : (32768 : Int) < n2 := by omega
    go_wp2_with fail
    go_ret
    exact ⟨rfl, Below.refl _ _⟩
  obtain ⟨c, rfl, rc, sc⟩ := C1.out.slIs (by omega)
  obtain ⟨m, rfl, rm, sm⟩ := C2.out.slIs (by omega)
  clear C1 C2
  have : ¬ (32768 : Int) < c.length := by omega
  have : ¬ (32768 : Int) < m.length := by omega
  go_wp2_with fail
  refine (wf_any a1 cap1 c _ sc).mono ?_
  rintro e w1 ⟨rfl, i1, rfl⟩
  cases hw1 : wfB c
  case false =>
    go_wp2_with fail
    go_ret
    exact ⟨rfl, below_drewN (Below.refl _ _) _⟩
  have GC := good_of_wfB rc hw1
  clear hw1
  go_wp2_with fail
  refine (wf_any a2 cap2 m _ (by exact sm.of_heap rfl)).mono ?_
  rintro e w2 ⟨rfl, i2, rfl⟩
  cases hw2 : wfB m
  case false =>
    go_wp2_with fail
    go_ret
    exact ⟨rfl, below_drewN (Below.refl _ _) _⟩
  have GM := good_of_wfB rm hw2
  clear hw2
  go_wp2_with fail
  refine (count_any a1 cap1 c p _ (by exact sc.of_heap rfl)).mono ?_
  rintro e wa ⟨rfl, rfl⟩
  by_cases hk1 : cnt c p = 18446744073709551615
  · have q1 : (cnt c p == 18446744073709551615) = true := beq_iff_eq.2 hk1
    clear hk1
    go_wp2_with fail
    go_ret
    exact ⟨rfl, below_drewN (Below.refl _ _) _⟩
  have q1 : (cnt c p == 18446744073709551615) = false := beq_eq_false_iff_ne.2 hk1
  go_wp2_with fail
  refine (count_any a2 cap2 m p _ (by exact sm.of_heap rfl)).mono ?_
  rintro e wa ⟨rfl, rfl⟩
  by_cases hk2 : cnt m p = 18446744073709551615
  · have q2 : (cnt m p == 18446744073709551615) = true := beq_iff_eq.2 hk2
    clear hk2
    go_wp2_with fail
    go_ret
    exact ⟨rfl, below_drewN (Below.refl _ _) _⟩
  have q2 : (cnt m p == 18446744073709551615) = false := beq_eq_false_iff_ne.2 hk2
  have CM : Hid (Calm c m p) := ⟨rc, rm, hk1, hk2⟩
  clear hk1 hk2
  go_wp2_with fail
  refine (clock_any a1 cap1 c _ (by exact sc.of_heap rfl)).mono ?_
  rintro e w3 ⟨⟨v1, rfl, f1⟩, b0⟩
  have b1 : Below w'.heap.size w' w3 := below_undrewN b0
  obtain ⟨av, rfl, hh, hav⟩ := f1.holds
  have hav' : ∀ g, av = some ⟨g, 0, none⟩ → w'.heap.size ≤ g := hav
  clear f1 b0 hav
  have b2 : Below w'.heap.size w' (w3.alloc (.cells #[.slice av c.length c.length] 27)) := b1.alloc b1.size _
  have hx0 : Var (w3.alloc (.cells #[.slice av c.length c.length] 27)) w3.heap.size (.slice av c.length c.length) := heap_alloc_new w3 _
  go_wp2_with fail
  refine (clock_any a2 cap2 m _ (by exact sm.below b2)).mono ?_
  rintro e w4 ⟨⟨v2, rfl, f2⟩, b3⟩
  obtain ⟨am, rfl, hhm, ham⟩ := f2.holds
  have hx : Var w4 w3.heap.size (.slice av c.length c.length) := (b3.block _ (by simp)).trans hx0
  have hh4 : Holds w4 av c := by
    rcases hh with h | ⟨g, e, hr⟩
    · exact Or.inl h
    · exact Or.inr ⟨g, e, (hr.alloc _).below b3 (by have := hr.lt; simp; omega)⟩
  have B4 : Below w'.heap.size w' w4 := b2.trans (b3.mono (by have := b1.size; simp; omega))
  have hsep : Sep av am c m := Or.inl fun g b off h5 h6 => by
    rcases hhm with ⟨h7, _⟩ | ⟨g2, h7, _⟩
    · rw [h7] at h6; cases h6
    · have e1 : g2 = b := by rw [h7] at h6; simpa using congrArg (fun x : Option Addr => x.map Addr.block) h6
      have e2 := ham g2 h7
      have e3 : g < w3.heap.size := by
        rcases hh with ⟨h8, _⟩ | ⟨g3, h8, hr⟩
        · rw [h8] at h5; cases h5
        · have : g3 = g := by rw [h8] at h5; simpa using congrArg (fun x : Option Addr => x.map Addr.block) h5
          subst this; exact hr.lt
      simp at e2
      omega
  clear f2
  go_wp2_with fail
  refine (recv_any _ w'.heap.size w3.heap.size av am m.length p c m (by exact hx) (by exact hh4) hav' (by exact B4.size) (by exact hhm.slIs (by omega)) GC GM (by omega) (by omega) hsep).mono ?_
  rintro e w5 ⟨rfl, v3, F, hx5, hck, hsp, hFl, hch⟩
  have B5 : Below w'.heap.size w' w5 := B4.trans (hch.below B4.size (fun k hk => by
    rcases hk with rfl | hk
    · exact b1.size
    · exact hav' k hk))
  obtain ⟨a3, c3, rfl, hs3⟩ := hck.slIs (by omega)
  have x5 := hx5.cell
  have hxl := hx5.lt
  have hgF := hsp.good GC GM CM.out
  have hr1 := hsp.before GC CM.out
  have hr2 := hsp.symm.before GM CM.out.symm
  have hwF := wfB_of_good hgF
  have HH : Hid (Good F ∧ Below w'.heap.size w' w5 ∧ SlIs w5 a3 F ∧ SlIs w5 a1 c ∧ SlIs w5 a2 m ∧ relI c F = 1 ∧ relI m F = 1 ∧ F.length ≤ c3) := ⟨hgF, B5, hs3, sc.below B5, sm.below B5, hr1, hr2, by
    rcases hck with ⟨h1, h2⟩ | ⟨g, L, h1, _, _, h3, _⟩
    · rw [h2]; simp
    · have : c3 = L.length := by simpa using congrArg (fun v : Value => match v with | .slice _ _ c => c | _ => 0) h1
      omega⟩
  clear hsp hch hck hx5 hx hh hhm hsep hh4 hx0 b3 b2 B4 hgF hr1 hr2
  go_wp2_with fail
  refine (cwf_any a3 c3 F _ (by exact HH.out.2.2.1)).mono ?_
  rw [hwF]
  rintro e w6 ⟨rfl, i6, rfl⟩
  go_wp2_with fail
  go_region_held3 (fun w' => w'.cell? ⟨w3.heap.size, 0, none⟩ = some (.slice a3 F.length c3))
    (first | go_keep | exact keep4 hxl b7 b8 b9 b10 x5 | exact keep3 hxl b7 b8 b9 x5 | exact keep2 hxl b7 b8 x5 | exact keep1 hxl b7 x5)
    (first
      | (go_at_call_of 9 (Value.slice a1 c.length cap1); refine (clock_any a1 cap1 c _ (by exact HH.out.2.2.2.1.of_heap rfl)).mono ?_; rintro e w7 ⟨⟨v7, rfl, f7⟩, b7⟩; obtain ⟨p7, q7, rfl, hq7, s7⟩ := f7.slice (by omega))
      | (go_at_call_of 10 (Value.slice p7 c.length q7); refine (cmp_any p7 a3 q7 c3 c F _ (by exact s7) (by exact SlIs.below (HH.out.2.2.1.of_heap (by rfl)) b7) GC HH.out.1 hq7 HH.out.2.2.2.2.2.2.2).mono ?_; rw [HH.out.2.2.2.2.2.1]; rintro e w8 ⟨rfl, b8⟩)
      | (go_at_call_of 9 (Value.slice a2 m.length cap2); refine (clock_any a2 cap2 m _ (by exact SlIs.below (SlIs.below (HH.out.2.2.2.2.1.of_heap (by rfl)) b7) b8)).mono ?_; rintro e w9 ⟨⟨v9, rfl, f9⟩, b9⟩; obtain ⟨p9, q9, rfl, hq9, s9⟩ := f9.slice (by omega))
      | (go_at_call_of 10 (Value.slice p9 m.length q9); refine (cmp_any p9 a3 q9 c3 m F _ (by exact s9) (by exact SlIs.below (SlIs.below (SlIs.below (HH.out.2.2.1.of_heap (by rfl)) b7) b8) b9) GM HH.out.1 hq9 HH.out.2.2.2.2.2.2.2).mono ?_; rw [HH.out.2.2.2.2.2.2.1]; rintro e w10 ⟨rfl, b10⟩))
  go_wp2_with fail
  go_ret
  refine ⟨rfl, ?_⟩
  have e7 : Below w5.heap.size w5 w7 := ⟨b7.os, b7.tape, b7.output, b7.size, b7.block⟩
  have e8 := e7.trans (b8.mono e7.size)
  have e9 := e8.trans (b9.mono e8.size)
  have e10 := e9.trans (b10.mono e9.size)
  exact HH.out.2.1.trans (e10.mono HH.out.2.1.size)
end Go.Proofs.Qxb6604789a
