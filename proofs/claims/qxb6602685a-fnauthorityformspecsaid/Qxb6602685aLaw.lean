/-
  THE LAW FnAuthorityFormSpec: its walk.
-/
import Derived.Test.Qxb6602685aWk3
namespace Go.Proofs.Qxb6602685a
open Go.RowKit

theorem bytes11_any (t : ByteArray) (w : World) (hn : t.size ≤ maxLen) :
    Calls Try.prog 11 #[.string t] w fun e w' => RetB (t.size ≤ 1048576) e ∧ w' = w := by
  unfold maxLen at hn
  by_cases h : t.size ≤ 1048576
  · have d : decide ((1048576 : Int) < (t.size : Int)) = false := decide_eq_false (by omega)
    go_enter Try.func11, Try.ntmps11
    go_wp2
    all_goals
      go_ret
      exact ⟨⟨true, rfl, iff_yes h⟩, rfl⟩
  · have d : (1048576 : Int) < (t.size : Int) := by omega
    have H : Hid (¬ t.size ≤ 1048576) := h
    clear h
    go_enter Try.func11, Try.ntmps11
    go_wp2
    all_goals
      go_ret
      exact ⟨⟨false, rfl, iff_no H.out⟩, rfl⟩

theorem zform_any (t : ByteArray) (w : World) (ht : t.size ≤ 1048576) :
    Calls Try.prog 12 #[.string t] w fun e w' => RetB (Auth (bt t) t.size) e ∧ Grown w w' := by
  go_enter Try.func12, Try.ntmps12
  go_wp2_with fail
  refine (form_any t w ht).mono ?_
  rintro e w' ⟨⟨b, rfl, hb⟩, hg⟩
  have HB : Hid (RetB (Auth (bt t) t.size) (.returned (.bool b)) ∧ Grown w w') := ⟨⟨b, rfl, hb⟩, hg⟩
  clear hb hg
  go_wp2_with fail
  go_ret
  exact HB.out

theorem law_form (t : ByteArray) (w : World) (ht : t.size ≤ maxLen) :
    Calls Try.prog 5 #[.string t] w fun e w' => e = .returned (.bool true) ∧ Grown w w' := by
  go_enter Try.func5, Try.ntmps5
  go_wp2_with fail
  refine (bytes11_any t w ht).mono ?_
  rintro e w' ⟨⟨b, rfl, hb⟩, rfl⟩
  cases b
  case false =>
    clear hb
    go_wp2_with fail
    go_ret
    exact ⟨rfl, Grown.refl _⟩
  case true =>
    have hs := hb.1 rfl
    clear hb
    have d : decide ((1048576 : Int) < (t.size : Int)) = false := decide_eq_false (by omega)
    go_wp2_with fail
    refine (zform_any t _ hs).mono ?_
    rintro e w2 ⟨⟨b, rfl, hb⟩, hg⟩
    have HG : Hid (Grown w' w2) := hg
    have HB : Hid (b = true ↔ Auth (bt t) t.size) := hb
    clear hg hb
    go_wp2_with fail
    refine (modelA t (Auth (bt t) t.size) _ hs Iff.rfl).mono ?_
    rintro e w3 ⟨⟨b2, rfl, hb2⟩, rfl⟩
    have e2 : b = b2 := iff_bool HB.out hb2
    subst e2
    clear hb2 HB
    cases b
    case false =>
      go_wp2_with fail
      go_ret
      exact ⟨rfl, HG.out⟩
    case true =>
      go_wp2_with fail
      go_ret
      exact ⟨rfl, HG.out⟩

end Go.Proofs.Qxb6602685a
