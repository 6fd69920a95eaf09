/-
  THE PLAIN MATHEMATICS: a received clock comes strictly after both that it was made from.
-/
import Derived.Test.Qxb6604789aPlain2
namespace Go.Proofs.Qxb6604789a

theorem cnt_bound {l : List (Int × Int)} (h : ∀ e ∈ l, InR e) (q : Int) : 0 ≤ cnt l q ∧ cnt l q ≤ 18446744073709551615 := by
  induction l with
  | nil => exact ⟨Int.le_refl _, by simp [cnt]⟩
  | cons e l ih =>
    rw [cnt]
    split
    · exact ⟨(h e (List.mem_cons_self ..)).2.2.1, (h e (List.mem_cons_self ..)).2.2.2⟩
    · exact ih fun x hx => h x (List.mem_cons_of_mem _ hx)

theorem inc_small {n : Int} (h0 : 0 ≤ n) (h : n < 18446744073709551615) : inc n = n + 1 := by unfold inc; omega

theorem RSpec.symm {c m : List (Int × Int)} {p : Int} {F : List (Int × Int)} (h : RSpec c m p F) : RSpec m c p F := by
  refine ⟨h.1, fun e => ?_⟩
  rw [h.2 e]
  have hv : val c m p e.1 = val m c p e.1 := by
    unfold val
    rw [show max (cnt c e.1) (cnt m e.1) = max (cnt m e.1) (cnt c e.1) by omega]
  rw [hv]
  constructor
  · rintro ⟨h1 | h1 | h1, h2⟩
    · exact ⟨Or.inr (Or.inl h1), h2⟩
    · exact ⟨Or.inl h1, h2⟩
    · exact ⟨Or.inr (Or.inr h1), h2⟩
  · rintro ⟨h1 | h1 | h1, h2⟩
    · exact ⟨Or.inr (Or.inl h1), h2⟩
    · exact ⟨Or.inl h1, h2⟩
    · exact ⟨Or.inr (Or.inr h1), h2⟩

/-- The count in the result. -/
theorem RSpec.cnt_ge {c m : List (Int × Int)} {p : Int} {F : List (Int × Int)} (h : RSpec c m p F) {q : Int} (hk : keyIn c q ∨ keyIn m q ∨ q = p) : cnt F q = val c m p q :=
  cnt_mem h.1 (e := (q, val c m p q)) ((h.2 _).2 ⟨hk, rfl⟩)

/-- p's count is not at its greatest value: no wrap. -/
structure Calm (c m : List (Int × Int)) (p : Int) : Prop where
  rc : ∀ e ∈ c, InR e
  rm : ∀ e ∈ m, InR e
  nc : cnt c p ≠ 18446744073709551615
  nm : cnt m p ≠ 18446744073709551615

theorem Calm.symm {c m : List (Int × Int)} {p : Int} (h : Calm c m p) : Calm m c p := ⟨h.rm, h.rc, h.nm, h.nc⟩

theorem val_p {c m : List (Int × Int)} {p : Int} (h : Calm c m p) : val c m p p = max (cnt c p) (cnt m p) + 1 := by
  have h1 := cnt_bound h.rc p
  have h2 := cnt_bound h.rm p
  have := h.nc
  have := h.nm
  rw [val, if_pos rfl, inc_small (by omega) (by omega)]

theorem val_ge {c m : List (Int × Int)} {p : Int} (h : Calm c m p) (q : Int) : cnt c q ≤ val c m p q := by
  by_cases hq : q = p
  · subst hq; rw [val_p h]; omega
  · rw [val, if_neg hq]; omega

theorem RSpec.good {c m : List (Int × Int)} {p : Int} {F : List (Int × Int)} (hc : Good c) (hm : Good m) (k : Calm c m p) (h : RSpec c m p F) : Good F := by
  refine ⟨h.1, fun e he => ?_⟩
  obtain ⟨h1, h2⟩ := (h.2 e).1 he
  rw [h2]
  by_cases hq : e.1 = p
  · rw [hq, val_p k]
    have h3 := cnt_bound k.rc p
    omega
  · rcases h1 with ⟨f, hf, hfe⟩ | ⟨f, hf, hfe⟩ | h1
    · have h3 := cnt_mem hc.1 hf
      have h4 := hc.2 f hf
      rw [hfe] at h3
      have := val_ge k e.1
      omega
    · have h3 := cnt_mem hm.1 hf
      have h4 := hm.2 f hf
      rw [hfe] at h3
      rw [val, if_neg hq]
      omega
    · exact absurd h1 hq

theorem RSpec.before {c m : List (Int × Int)} {p : Int} {F : List (Int × Int)} (hc : Good c) (k : Calm c m p) (h : RSpec c m p F) : relI c F = 1 := by
  have h1 : ltB c F = true := by
    unfold ltB
    rw [List.any_eq_true]
    refine ⟨(p, val c m p p), (h.2 _).2 ⟨Or.inr (Or.inr rfl), rfl⟩, ?_⟩
    show decide (cnt c p < val c m p p) = true
    rw [val_p k]
    exact decide_eq_true (by omega)
  have h2 : ltB F c = false := by
    unfold ltB
    rw [List.any_eq_false]
    intro e he
    show ¬ decide (cnt F e.1 < e.2) = true
    rw [h.cnt_ge (Or.inl ⟨e, he, rfl⟩)]
    have h3 := cnt_mem hc.1 he
    have := val_ge k e.1
    simp
    omega
  rw [relI, h1, h2]
  rfl

end Go.Proofs.Qxb6604789a
