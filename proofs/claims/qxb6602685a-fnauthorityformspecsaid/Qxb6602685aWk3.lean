/-
  WALK: urlpathB1AuthorityModel.
-/
import Derived.Test.Qxb6602685aWk2
namespace Go.Proofs.Qxb6602685a
open Go.RowKit

theorem in_dig (c : Int) (w : World) (h0 : 0 ≤ c) (h1 : c ≤ 255) :
    Calls Try.prog 17 #[.int .u8 c, .string { data := #[48, 49, 50, 51, 52, 53, 54, 55, 56, 57] }] w fun e w' => e = .returned (.bool (isD c)) ∧ w' = w := by
  refine (in_any c digitsT w (by decide)).mono ?_
  rintro e w' ⟨⟨b, rfl, hb⟩, rfl⟩
  rw [tab_of tab_dig h0 h1] at hb
  exact ⟨by rw [iff_bool hb Iff.rfl], rfl⟩

theorem in_reg (c : Int) (w : World) (h0 : 0 ≤ c) (h1 : c ≤ 255) :
    Calls Try.prog 17 #[.int .u8 c, .string regT] w fun e w' => e = .returned (.bool (regB c)) ∧ w' = w := by
  refine (in_any c regT w (by decide)).mono ?_
  rintro e w' ⟨⟨b, rfl, hb⟩, rfl⟩
  rw [tab_of tab_reg h0 h1] at hb
  exact ⟨by rw [iff_bool hb Iff.rfl], rfl⟩

set_option maxHeartbeats 4000000 in
set_option maxRecDepth 100000 in
theorem modelA (t : ByteArray) (A : Prop) (w : World) (ht : t.size ≤ 1048576) (hA : Auth (bt t) t.size ↔ A) :
    Calls Try.prog 13 #[.string t] w fun e w' => RetB A e ∧ w' = w := by
  have HA : Hid (Auth (bt t) t.size ↔ A) := hA
  clear hA
  go_enter Try.func13, Try.ntmps13
  go_wp2_with fail
  go_loop [3] (fun kv => ∃ k : Nat, k ≤ t.size ∧ kv = .int .i64 k ∧ Hid (∀ j, k ≤ j → j < t.size → isD (bt t j) = true)) (fun kv => (intOf kv).toNat)
  case atStart => exact ⟨t.size, Nat.le_refl _, rfl, fun j h1 h2 => absurd h1 (by omega)⟩
  case round =>
    obtain ⟨k, hk, rfl, I⟩ := hrel
    by_cases h0 : k = 0
    · subst h0
      have AU : Hid (¬ A) := fun h => by
        have := (auth_run (k := 0) ⟨Nat.zero_le _, I.out, fun h => absurd h (by omega)⟩).1 (HA.out.2 h)
        omega
      by_cases hn : t.size = 0
      · have q : ((0 : Int) == (t.size : Int)) = true := beq_iff_eq.2 (by omega)
        go_wp2_with fail
        all_goals
          go_ret
          exact ⟨⟨false, rfl, iff_no AU.out⟩, rfl⟩
      · have q : ((0 : Int) == (t.size : Int)) = false := beq_eq_false_iff_ne.2 (by omega)
        go_wp2_with fail
        all_goals
          go_ret
          exact ⟨⟨false, rfl, iff_no AU.out⟩, rfl⟩
    · obtain ⟨m, rfl⟩ : ∃ m, k = m + 1 := ⟨k - 1, by omega⟩
      have hm : m < t.size := by omega
      have hc := bt_at hm
      have hbd := bt_bd t m
      have STOP : Hid (isD (bt t m) = false → (A ↔ m + 1 < t.size ∧ bt t m = 58 ∧ hostOk (bt t) m)) := fun h => by
        rw [← HA.out, auth_run (k := m + 1) ⟨hk, I.out, fun _ => h⟩]
        exact ⟨fun ⟨a, _, b, c⟩ => ⟨a, b, c⟩, fun ⟨a, b, c⟩ => ⟨a, by omega, b, c⟩⟩
      have GOON : Hid (isD (bt t m) = true → ∀ j, m ≤ j → j < t.size → isD (bt t j) = true) := fun h j h1 h2 => by
        rcases Nat.lt_or_ge m j with h3 | h3
        · exact I.out j (by omega) h2
        · rw [show j = m by omega]; exact h
      generalize bt t m = cv at hc hbd STOP GOON
      obtain ⟨b0, b255⟩ := hbd
      clear h0
      go_wp2_with fail
      refine (in_dig cv _ b0 b255).mono ?_
      rintro e w2 ⟨rfl, rfl⟩
      generalize hdv : isD cv = dv at STOP GOON
      clear hdv
      cases dv
      case true =>
        have G := GOON.out rfl
        have HG : Hid (∀ j, m ≤ j → j < t.size → isD (bt t j) = true) := G
        clear G STOP GOON I
        go_wp2_with fail
        go_round
        case rel => exact ⟨m, by omega, rfl, HG⟩
        case measure => simp [intOf]
      case false =>
        have S : Hid (A ↔ m + 1 < t.size ∧ cv = 58 ∧ hostOk (bt t) m) := STOP.out rfl
        clear STOP GOON I
        by_cases hl : m + 1 = t.size
        · have q : ((m : Int) + 1 == (t.size : Int)) = true := beq_iff_eq.2 (by omega)
          have AU : Hid (¬ A) := fun h => by have := (S.out.1 h).1; omega
          clear hl
          go_wp2_with fail
          go_ret
          exact ⟨⟨false, rfl, iff_no AU.out⟩, rfl⟩
        · have q : ((m : Int) + 1 == (t.size : Int)) = false := beq_eq_false_iff_ne.2 (by omega)
          have q0 : ((m : Int) + 1 == 0) = false := beq_eq_false_iff_ne.2 (by omega)
          by_cases h58 : cv = 58
          · have p58 : (cv == 58) = true := beq_iff_eq.2 h58
            have S2 : Hid (A ↔ hostOk (bt t) m) := S.out.trans ⟨fun h => h.2.2, fun h => ⟨by omega, h58, h⟩⟩
            have q1 : (0 : Int) ≤ (m : Int) := by omega
            have q2 : (m : Int) ≤ (t.size : Int) := by omega
            clear hl S
            go_upto_region 9 with fail
            have hHs : (t.extract 0 m).size = m := by rw [size_cut t (by omega)]; omega
            have hHb : Hid (∀ k, k < m → bt (t.extract 0 m) k = bt t k) := fun k hk => by rw [bt_cut t (by omega) (by omega), Nat.zero_add]
            generalize t.extract 0 m = H at *
            clear q1 q2 q q0 p58 h58 hc b0 b255
            go_cut [53] (fun lv wx => ∃ l : Bool, lv = .bool l ∧ w2 = wx ∧ Hid (l = true ↔ lit (bt t) m))
            case first =>
              by_cases h2 : 2 < m
              · obtain ⟨m, rfl⟩ : ∃ m', m = m' + 3 := ⟨m - 3, by omega⟩
                have l0 : 0 < H.size := by omega
                have l2 : m + 2 < H.size := by omega
                have c0 := bt_at l0
                have c2 := bt_at l2
                rw [hHb.out 0 (by omega)] at c0
                rw [hHb.out (m + 2) (by omega)] at c2
                have D : Hid (lit (bt t) (m + 3) ↔ bt t 0 = 91 ∧ bt t (m + 2) = 93) := ⟨fun h => ⟨h.2.1, h.2.2⟩, fun h => ⟨by omega, h.1, h.2⟩⟩
                generalize bt t 0 = x0 at c0 D
                generalize bt t (m + 2) = x2 at c2 D
                by_cases e0 : x0 = 91
                · have p0 : (x0 == 91) = true := beq_iff_eq.2 e0
                  by_cases e2 : x2 = 93
                  · have p2 : (x2 == 93) = true := beq_iff_eq.2 e2
                    have E : Hid (lit (bt t) (m + 3)) := D.out.2 ⟨e0, e2⟩
                    clear e0 e2 D
                    go_wp2_with fail
                    go_meet
                    case rel => exact ⟨_, rfl, rfl, iff_yes E.out⟩
                  · have p2 : (x2 == 93) = false := beq_eq_false_iff_ne.2 e2
                    have E : Hid (¬ lit (bt t) (m + 3)) := (fun h => e2 (D.out.1 h).2)
                    clear e0 e2 D
                    go_wp2_with fail
                    go_meet
                    case rel => exact ⟨_, rfl, rfl, iff_no E.out⟩
                · have p0 : (x0 == 91) = false := beq_eq_false_iff_ne.2 e0
                  have E : Hid (¬ lit (bt t) (m + 3)) := (fun h => e0 (D.out.1 h).1)
                  clear e0 D
                  go_wp2_with fail
                  go_meet
                  case rel => exact ⟨_, rfl, rfl, iff_no E.out⟩
              · have d2 : decide ((3 : Int) ≤ (m : Int)) = false := decide_eq_false (by omega)
                have E : Hid (¬ lit (bt t) m) := (fun h => h2 h.1)
                clear h2
                go_wp2_with fail
                go_meet
                case rel => exact ⟨_, rfl, rfl, iff_no E.out⟩
            case rest =>
              obtain ⟨l, rfl, rfl, HLit⟩ := hcut
              cases l
              case true =>
                have h2 := (HLit.out.1 rfl).1
                have S3 : Hid (A ↔ 0 < m - 2 ∧ ∀ k, k < m - 2 → good true (bt t (1 + k))) := S2.out.trans (host_iff HLit.out ⟨fun _ => ⟨rfl, by omega, by omega⟩, fun h => absurd h (by decide)⟩)
                clear S2 HLit
                go_wp2_with fail
                go_loop [5] (fun jv => ∃ a : Nat, a + 2 ≤ m ∧ jv = .int .i64 ((a : Int) + 1) ∧ Hid (∀ k, k < a → good true (bt t (1 + k)))) (fun jv => m - (intOf jv).toNat)
                case atStart => exact ⟨0, by omega, rfl, fun k hk => absurd hk (by omega)⟩
                case round =>
                  obtain ⟨a, ha, rfl, I⟩ := hrel
                  by_cases hlt : a + 2 < m
                  · have la : a + 1 < H.size := by omega
                    have hc := bt_at la
                    rw [hHb.out (a + 1) (by omega), show bt t (a + 1) = bt t (1 + a) by rw [Nat.add_comm]] at hc
                    have hbd := bt_bd t (1 + a)
                    have BAD : Hid (¬ good true (bt t (1 + a)) → ¬ A) := fun h hA => h ((S3.out.1 hA).2 a (by omega))
                    have GOOD : Hid (good true (bt t (1 + a)) → ∀ k, k < a + 1 → good true (bt t (1 + k))) := fun h k hk => by
                      rcases Nat.lt_or_ge k a with h1 | h1
                      · exact I.out k h1
                      · rw [show k = a by omega]; exact h
                    generalize bt t (1 + a) = cv at hc hbd BAD GOOD
                    obtain ⟨b0, b255⟩ := hbd
                    have g1 : (a : Int) + 1 < (m : Int) - 1 := by omega
                    by_cases h58 : cv = 58
                    · subst h58
                      have G : Hid (∀ k, k < a + 1 → good true (bt t (1 + k))) := GOOD.out (Or.inr ⟨rfl, rfl⟩)
                      clear GOOD BAD I
                      go_wp2_with fail
                      go_round
                      case rel => exact ⟨a + 1, by omega, by go_num, G⟩
                      case measure => simp [intOf]; omega
                    · have p58 : (cv == 58) = false := beq_eq_false_iff_ne.2 h58
                      have N58 : Hid (cv ≠ 58) := h58
                      clear h58
                      go_wp2_with fail
                      refine (in_reg cv _ b0 b255).mono ?_
                      rintro e w3 ⟨rfl, rfl⟩
                      generalize hrv : regB cv = rv
                      have HRV : Hid (regB cv = rv) := hrv
                      clear hrv
                      cases rv
                      case true =>
                        have G : Hid (∀ k, k < a + 1 → good true (bt t (1 + k))) := GOOD.out (Or.inl HRV.out)
                        clear GOOD BAD I
                        go_wp2_with fail
                        go_round
                        case rel => exact ⟨a + 1, by omega, by go_num, G⟩
                        case measure => simp [intOf]; omega
                      case false =>
                        have AU : Hid (¬ A) := BAD.out (fun h => by
                          rcases h with h | h
                          · rw [HRV.out] at h; cases h
                          · exact absurd h.2 N58.out)
                        clear GOOD BAD I
                        go_wp2_with fail
                        go_ret
                        exact ⟨⟨false, rfl, iff_no AU.out⟩, rfl⟩
                  · have g1 : decide ((a : Int) + 1 < (m : Int) - 1) = false := decide_eq_false (by omega)
                    have AU : Hid A := S3.out.2 ⟨by omega, fun k hk => I.out k (by omega)⟩
                    clear hlt I S3
                    go_wp2_with fail
                    go_ret
                    exact ⟨⟨true, rfl, iff_yes AU.out⟩, rfl⟩
              case false =>
                have S3 : Hid (A ↔ 0 < m ∧ ∀ k, k < m → good false (bt t (0 + k))) := S2.out.trans (host_iff HLit.out ⟨fun h => absurd h (by decide), fun _ => ⟨rfl, rfl⟩⟩)
                clear S2 HLit
                by_cases hz : m = 0
                · have AU : Hid (¬ A) := fun h => by have := (S3.out.1 h).1; omega
                  have z0 : ((m : Int) == 0) = true := beq_iff_eq.2 (by omega)
                  go_wp2_with fail
                  go_ret
                  exact ⟨⟨false, rfl, iff_no AU.out⟩, rfl⟩
                · have z0 : ((m : Int) == 0) = false := beq_eq_false_iff_ne.2 (by omega)
                  go_wp2_with fail
                  go_loop [7] (fun jv => ∃ a : Nat, a ≤ m ∧ jv = .int .i64 a ∧ Hid (∀ k, k < a → good false (bt t (0 + k)))) (fun jv => m - (intOf jv).toNat)
                  case atStart => exact ⟨0, by omega, rfl, fun k hk => absurd hk (by omega)⟩
                  case round =>
                    obtain ⟨a, ha, rfl, I⟩ := hrel
                    by_cases hlt : a < m
                    · have la : a < H.size := by omega
                      have hc := bt_at la
                      rw [hHb.out a (by omega)] at hc
                      have hbd := bt_bd t a
                      have BAD : Hid (¬ good false (bt t a) → ¬ A) := fun h hA => h (by have h9 := (S3.out.1 hA).2 a hlt; rw [Nat.zero_add] at h9; exact h9)
                      have GOOD : Hid (good false (bt t a) → ∀ k, k < a + 1 → good false (bt t (0 + k))) := fun h k hk => by
                        rcases Nat.lt_or_ge k a with h1 | h1
                        · exact I.out k h1
                        · rw [show 0 + k = a by omega]; exact h
                      generalize bt t a = cv at hc hbd BAD GOOD
                      obtain ⟨b0, b255⟩ := hbd
                      have g1 : (a : Int) < (m : Int) := by omega
                      go_wp2_with fail
                      refine (in_reg cv _ b0 b255).mono ?_
                      rintro e w3 ⟨rfl, rfl⟩
                      generalize hrv : regB cv = rv
                      have HRV : Hid (regB cv = rv) := hrv
                      clear hrv
                      cases rv
                      case true =>
                        have G : Hid (∀ k, k < a + 1 → good false (bt t (0 + k))) := GOOD.out (Or.inl HRV.out)
                        clear GOOD BAD I
                        go_wp2_with fail
                        go_round
                        case rel => exact ⟨a + 1, by omega, by go_num, G⟩
                        case measure => simp [intOf]; omega
                      case false =>
                        have AU : Hid (¬ A) := BAD.out (fun h => by
                          rcases h with h | h
                          · rw [HRV.out] at h; cases h
                          · exact absurd h.1 (by decide))
                        clear GOOD BAD I
                        go_wp2_with fail
                        go_ret
                        exact ⟨⟨false, rfl, iff_no AU.out⟩, rfl⟩
                    · have ea : a = m := by omega
                      subst ea
                      have AU : Hid A := S3.out.2 ⟨by omega, I.out⟩
                      clear hlt I S3
                      go_wp2_with fail
                      go_ret
                      exact ⟨⟨true, rfl, iff_yes AU.out⟩, rfl⟩
          · have p58 : (cv == 58) = false := beq_eq_false_iff_ne.2 h58
            have AU : Hid (¬ A) := fun h => h58 (S.out.1 h).2.1
            clear hl h58
            go_wp2_with fail
            go_ret
            exact ⟨⟨false, rfl, iff_no AU.out⟩, rfl⟩

end Go.Proofs.Qxb6602685a
