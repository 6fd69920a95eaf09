/-
  WALKS: digitsEnd, checkNumber.
-/
import Derived.Test.Qxb6605189aMem
import Derived.Test.Qxb6605189aNPlain
import Derived.Deep.CutBlock
namespace Go.Proofs.Qxb6605189a
open Go.RowKit

theorem dg_false {c : Int} (h : ¬ (48 ≤ c ∧ c ≤ 57)) : dg c = false := decide_eq_false h

set_option maxHeartbeats 1000000 in
set_option maxRecDepth 100000 in
theorem digits_any (a : Option Addr) (cap k : Nat) (T : List Int) (w : World) (hT : BIs w a T) (_hk : k ≤ 5000000) :
    Calls Try.prog 27 #[.slice a T.length cap, .int .i64 k] w fun e w' => e = .returned (.int .i64 (ans k (digs (T.drop k)))) ∧ w' = w := by
  have hlen := hT.1
  go_enter Try.func27, Try.ntmps27
  go_wp2
  go_loop [1] (fun i => ∃ j : Nat, k ≤ j ∧ (j = k ∨ j ≤ T.length) ∧ i = .int .i64 j ∧ Hid (runD (T.drop k) = (j - k) + runD (T.drop j))) (fun i => T.length - (intOf i).toNat)
  case atStart => exact ⟨k, Nat.le_refl _, Or.inl rfl, rfl, by simp [Hid]⟩
  case round =>
    obtain ⟨j, hj, hjl, rfl, I⟩ := hrel
    by_cases hlt : j < T.length
    · obtain ⟨b, off, rfl, hL⟩ := hT.at hlt
      have c0 := hL j hlt
      have I2 : Hid (dg (T.getD j 0) = true → runD (T.drop k) = (j + 1 - k) + runD (T.drop (j + 1))) := fun hd => by have := I.out; rw [runD_step hlt hd] at this; omega
      have I3 : Hid (dg (T.getD j 0) = false → runD (T.drop k) = j - k) := fun hd => by have := I.out; rw [runD_stop (fun _ => hd)] at this; omega
      have hd0 : decide (j < T.length) = true := decide_eq_true hlt
      generalize T.getD j 0 = cv at c0 I2 I3
      by_cases h1 : 48 ≤ cv
      · by_cases h2 : cv ≤ 57
        · have J := I2.out (decide_eq_true ⟨h1, h2⟩)
          have HJ : Hid _ := J
          clear J
          go_wp2
          go_round
          case rel => exact ⟨j + 1, by omega, Or.inr (by omega), by go_num, HJ⟩
          case measure => simp [intOf]; omega
        · have J := I3.out (dg_false (by omega))
          have HJ : Hid (runD (T.drop k) = j - k) := J
          clear J
          by_cases hjk : j = k
          · have hq : ((j : Int) == (k : Int)) = true := beq_iff_eq.2 (by omega)
            have E : Hid (ans k (digs (T.drop k)) = -1) := by unfold digs; rw [HJ.out, if_pos (by omega)]; trivial
            clear hjk
            go_wp2
            go_ret
            exact ⟨by rw [E.out]; rfl, rfl⟩
          · have hq : ((j : Int) == (k : Int)) = false := beq_eq_false_iff_ne.2 (by omega)
            have E : Hid (ans k (digs (T.drop k)) = j) := by unfold digs; rw [HJ.out, if_neg (by omega)]; simp [Hid, ans]; omega
            clear hjk
            go_wp2
            go_ret
            exact ⟨by rw [E.out]; rfl, rfl⟩
      · have J := I3.out (dg_false (by omega))
        have HJ : Hid (runD (T.drop k) = j - k) := J
        clear J
        by_cases hjk : j = k
        · have hq : ((j : Int) == (k : Int)) = true := beq_iff_eq.2 (by omega)
          have E : Hid (ans k (digs (T.drop k)) = -1) := by unfold digs; rw [HJ.out, if_pos (by omega)]; trivial
          clear hjk
          go_wp2
          go_ret
          exact ⟨by rw [E.out]; rfl, rfl⟩
        · have hq : ((j : Int) == (k : Int)) = false := beq_eq_false_iff_ne.2 (by omega)
          have E : Hid (ans k (digs (T.drop k)) = j) := by unfold digs; rw [HJ.out, if_neg (by omega)]; simp [Hid, ans]; omega
          clear hjk
          go_wp2
          go_ret
          exact ⟨by rw [E.out]; rfl, rfl⟩
    · have J : runD (T.drop k) = j - k := by have := I.out; rw [runD_stop (fun h => absurd h hlt)] at this; omega
      have hd0 : decide (j < T.length) = false := decide_eq_false hlt
      have HJ : Hid (runD (T.drop k) = j - k) := J
      clear J
      by_cases hjk : j = k
      · have hq : ((j : Int) == (k : Int)) = true := beq_iff_eq.2 (by omega)
        have E : Hid (ans k (digs (T.drop k)) = -1) := by unfold digs; rw [HJ.out, if_pos (by omega)]; trivial
        clear hjk
        go_wp2
        go_ret
        exact ⟨by rw [E.out]; rfl, rfl⟩
      · have hq : ((j : Int) == (k : Int)) = false := beq_eq_false_iff_ne.2 (by omega)
        have E : Hid (ans k (digs (T.drop k)) = j) := by unfold digs; rw [HJ.out, if_neg (by omega)]; simp [Hid, ans]; omega
        clear hjk
        go_wp2
        go_ret
        exact ⟨by rw [E.out]; rfl, rfl⟩

/-- The first pass of checkNumber's tests: a byte at a place. -/
theorem atc_yes {T : List Int} {k : Nat} {c : Int} (h : k < T.length) (e : T.getD k 0 = c) : atc T k c = true := decide_eq_true ⟨h, e⟩
theorem atc_no {T : List Int} {k : Nat} {c : Int} (h : k < T.length → T.getD k 0 ≠ c) : atc T k c = false := decide_eq_false fun ⟨h1, h2⟩ => h h1 h2

theorem beq_dec (a b : Int) : (a == b) = decide (a = b) := by rw [Bool.eq_iff_iff]; simp

set_option maxHeartbeats 4000000 in
set_option maxRecDepth 100000 in
theorem num_any (a : Option Addr) (cap k : Nat) (T : List Int) (w : World) (hT : BIs w a T) (hk : k ≤ 9223372036854775807) :
    Calls Try.prog 23 #[.slice a T.length cap, .int .i64 k] w fun e w' => e = .returned (.int .i64 (ans k (rdN (T.drop k)))) ∧ w' = w := by
  have hlen := hT.1
  generalize hR : ans k (rdN (T.drop k)) = R
  have HR : Hid (ans k (rdN (T.drop k)) = R) := hR
  clear hR
  go_enter Try.func23, Try.ntmps23
  go_upto_region 1 with fail
  go_cut [15] (fun t wx => ∃ t0 : Bool, t = .bool t0 ∧ w = wx ∧ Hid (t0 = atc T k 45))
  case first =>
    by_cases hlt : k < T.length
    · obtain ⟨b, off, rfl, hL⟩ := hT.at hlt
      have c0 := hL k hlt
      have hd0 : decide (k < T.length) = true := decide_eq_true hlt
      have HA : Hid (atc T k 45 = decide (T.getD k 0 = 45)) := by simp [Hid, atc, hlt]
      generalize T.getD k 0 = cv at c0 HA
      go_wp2
      go_meet
      case rel => exact ⟨_, rfl, rfl, by rw [HA.out]; exact beq_dec _ _⟩
    · have hd0 : decide (k < T.length) = false := decide_eq_false hlt
      go_wp2
      go_meet
      case rel => exact ⟨_, rfl, rfl, (atc_no (fun h => absurd h hlt)).symm⟩
  case rest =>
    obtain ⟨t0, rfl, rfl, A0⟩ := hcut
    go_upto_if 15 with fail
    go_cut [1] (fun iv wx => ∃ k1 : Nat, iv = .int .i64 k1 ∧ w = wx ∧ k1 ≤ 9223372036854775807 ∧ Hid (R = ans k1 (rdI (T.drop k1))))
    case first =>
      cases t0
      case false =>
        go_wp2
        go_meet
        case rel => exact ⟨k, rfl, rfl, hk, by have := stepN' A0.out.symm; exact HR.out.symm.trans this⟩
      case true =>
        have hkl : k < T.length := (of_decide_eq_true A0.out.symm).1
        go_wp2
        go_meet
        case rel => exact ⟨k + 1, by go_num, rfl, by omega, by have := stepN A0.out.symm; exact HR.out.symm.trans this⟩
    case rest =>
      obtain ⟨k1, rfl, rfl, hk1, I1⟩ := hcut
      clear A0 HR hk
      go_upto_block 0 with fail
      go_cut [1] (fun iv wx => ∃ k2 : Nat, iv = .int .i64 k2 ∧ w = wx ∧ k2 ≤ T.length ∧ Hid (R = ans k2 (rdF (T.drop k2))))
      case first =>
        by_cases hlt : k1 < T.length
        · have hT2 := hT
          obtain ⟨b, off, rfl, hL⟩ := hT.at hlt
          have c0 := hL k1 hlt
          have hd0 : decide (k1 < T.length) = true := decide_eq_true hlt
          have H0 : Hid (T.getD k1 0 = 48 → atc T k1 48 = true) := fun h => atc_yes hlt h
          have H1 : Hid (T.getD k1 0 ≠ 48 → nz (T.getD k1 0) = false → R = -1) := fun h1 h2 => I1.out.trans (stepI9 (atc_no fun _ => h1) (fun _ => h2))
          have H2 : Hid (nz (T.getD k1 0) = true → ans k1 (rdI (T.drop k1)) = ans (k1 + runD (T.drop k1)) (rdF (T.drop (k1 + runD (T.drop k1)))) ∧ 0 < runD (T.drop k1)) := fun h => stepI1 hlt h
          generalize T.getD k1 0 = cv at c0 H0 H1 H2
          by_cases h48 : cv = 48
          · have q0 : (cv == 48) = true := beq_iff_eq.2 h48
            have E : Hid (R = ans (k1 + 1) (rdF (T.drop (k1 + 1)))) := I1.out.trans (stepI0 (H0.out h48))
            clear h48
            go_wp2
            go_meet
            case rel => exact ⟨k1 + 1, by go_num, rfl, by omega, E⟩
          have q0 : (cv == 48) = false := beq_eq_false_iff_ne.2 h48
          by_cases hnz : 49 ≤ cv ∧ cv ≤ 57
          · obtain ⟨n1, n2⟩ := hnz
            have E := H2.out (decide_eq_true ⟨n1, n2⟩)
            have HE : Hid _ := E
            have hrl := runD_le (T.drop k1)
            rw [List.length_drop] at hrl
            clear E h48
            go_wp2_with fail
            refine (digits_any _ cap k1 T _ hT2 (by omega)).mono ?_
            rw [show ans k1 (digs (T.drop k1)) = ((k1 + runD (T.drop k1) : Nat) : Int) from by rw [digs, if_neg (by have := HE.out.2; omega)]; simp [ans]]
            rintro e w' ⟨rfl, rfl⟩
            go_wp2_with fail
            go_meet
            case rel => exact ⟨k1 + runD (T.drop k1), rfl, rfl, by omega, I1.out.trans HE.out.1⟩
          · have E : Hid (R = -1) := H1.out h48 (decide_eq_false hnz)
            by_cases n1 : 49 ≤ cv
            · have d2 : decide (cv ≤ 57) = false := decide_eq_false (by omega)
              clear h48 hnz
              go_wp2_with fail
              go_ret
              exact ⟨by rw [E.out]; rfl, rfl⟩
            · have d1 : decide (49 ≤ cv) = false := decide_eq_false n1
              clear h48 hnz
              go_wp2_with fail
              go_ret
              exact ⟨by rw [E.out]; rfl, rfl⟩
        · have hd0 : decide (k1 < T.length) = false := decide_eq_false hlt
          have E : Hid (R = -1) := I1.out.trans (stepI9 (atc_no fun h => absurd h hlt) (fun h => absurd h hlt))
          go_wp2_with fail
          go_ret
          exact ⟨by rw [E.out]; rfl, rfl⟩
      case rest =>
        obtain ⟨k2, rfl, rfl, hk2, I2⟩ := hcut
        clear I1 hk1
        go_upto_region 8 with fail
        go_cut [64] (fun t wx => ∃ t0 : Bool, t = .bool t0 ∧ w = wx ∧ Hid (t0 = atc T k2 46))
        case first =>
          by_cases hlt : k2 < T.length
          · obtain ⟨b, off, rfl, hL⟩ := hT.at hlt
            have c0 := hL k2 hlt
            have hd0 : decide (k2 < T.length) = true := decide_eq_true hlt
            have HA : Hid (atc T k2 46 = decide (T.getD k2 0 = 46)) := by simp [Hid, atc, hlt]
            generalize T.getD k2 0 = cv at c0 HA
            go_wp2
            go_meet
            case rel => exact ⟨_, rfl, rfl, by rw [HA.out]; exact beq_dec _ _⟩
          · have hd0 : decide (k2 < T.length) = false := decide_eq_false hlt
            go_wp2
            go_meet
            case rel => exact ⟨_, rfl, rfl, (atc_no (fun h => absurd h hlt)).symm⟩
        case rest =>
          obtain ⟨t0, rfl, rfl, A0⟩ := hcut
          go_upto_if 64 with fail
          go_cut [1] (fun iv wx => ∃ k3 : Nat, iv = .int .i64 k3 ∧ w = wx ∧ k3 ≤ T.length ∧ Hid (R = ans k3 (rdE (T.drop k3))))
          case first =>
            cases t0
            case false =>
              go_wp2
              go_meet
              case rel => exact ⟨k2, rfl, rfl, hk2, I2.out.trans (stepF' A0.out.symm)⟩
            case true =>
              have hkl : k2 < T.length := (of_decide_eq_true A0.out.symm).1
              have S0 := stepF A0.out.symm
              have HS : Hid _ := S0
              clear S0
              have hrl := runD_le (T.drop (k2 + 1))
              rw [List.length_drop] at hrl
              go_wp2_with fail
              rw [show ((k2 : Int) + 1) = ((k2 + 1 : Nat) : Int) from by omega]
              refine (digits_any a cap (k2 + 1) T _ hT (by omega)).mono ?_
              by_cases hr0 : runD (T.drop (k2 + 1)) = 0
              · have E : Hid (R = -1) := I2.out.trans (HS.out.1 hr0)
                rw [show ans (k2 + 1) (digs (T.drop (k2 + 1))) = -1 from by rw [digs, if_pos hr0]; rfl]
                clear hr0
                rintro e w' ⟨rfl, rfl⟩
                go_wp2_with fail
                go_ret
                exact ⟨by rw [E.out]; rfl, rfl⟩
              · have E : Hid (R = ans (k2 + 1 + runD (T.drop (k2 + 1))) (rdE (T.drop (k2 + 1 + runD (T.drop (k2 + 1)))))) := I2.out.trans (HS.out.2 hr0)
                rw [show ans (k2 + 1) (digs (T.drop (k2 + 1))) = ((k2 + 1 + runD (T.drop (k2 + 1)) : Nat) : Int) from by rw [digs, if_neg hr0]; simp [ans]]
                clear hr0
                rintro e w' ⟨rfl, rfl⟩
                go_wp2_with fail
                go_meet
                case rel => exact ⟨k2 + 1 + runD (T.drop (k2 + 1)), rfl, rfl, by omega, E⟩
          case rest =>
            obtain ⟨k3, rfl, rfl, hk3, I3⟩ := hcut
            clear A0 I2 hk2
            go_upto_region 12 with fail
            go_cut [88] (fun t wx => ∃ t0 : Bool, t = .bool t0 ∧ w = wx ∧ Hid (t0 = true ↔ k3 < T.length ∧ ex (T.getD (k3) 0) = true))
            case first =>
              by_cases hlt : k3 < T.length
              · obtain ⟨b, off, rfl, hL⟩ := hT.at hlt
                have c0 := hL (k3) hlt
                have hd0 : decide (k3 < T.length) = true := decide_eq_true hlt
                obtain ⟨cv, hcv⟩ : ∃ cv, T.getD (k3) 0 = cv := ⟨_, rfl⟩
                rw [hcv] at c0
                have HA : Hid (∀ t0 : Bool, t0 = ex cv → Hid (t0 = true ↔ k3 < T.length ∧ ex (T.getD (k3) 0) = true)) := fun t0 h => by rw [hcv, h]; exact ⟨fun h => ⟨hlt, h⟩, fun h => h.2⟩
                clear hcv
                by_cases h1 : cv = 101
                · have q1 : (cv == 101) = true := beq_iff_eq.2 h1
                  have E : Hid (ex cv = true) := decide_eq_true (by omega)
                  clear h1
                  go_wp2
                  go_meet
                  case rel => exact ⟨_, rfl, rfl, HA.out _ E.out.symm⟩
                · have q1 : (cv == 101) = false := beq_eq_false_iff_ne.2 h1
                  by_cases h2 : cv = 69
                  · have q2 : (cv == 69) = true := beq_iff_eq.2 h2
                    have E : Hid (ex cv = true) := decide_eq_true (by omega)
                    clear h1 h2
                    go_wp2
                    go_meet
                    case rel => exact ⟨_, rfl, rfl, HA.out _ E.out.symm⟩
                  · have q2 : (cv == 69) = false := beq_eq_false_iff_ne.2 h2
                    have E : Hid (ex cv = false) := decide_eq_false (by omega)
                    clear h1 h2
                    go_wp2
                    go_meet
                    case rel => exact ⟨_, rfl, rfl, HA.out _ E.out.symm⟩
              · have hd0 : decide (k3 < T.length) = false := decide_eq_false hlt
                go_wp2
                go_meet
                case rel => exact ⟨_, rfl, rfl, ⟨fun h => (by cases h), fun h => absurd h.1 hlt⟩⟩
            case rest =>
              obtain ⟨t0, rfl, rfl, A0⟩ := hcut
              cases t0
              case false =>
                have E : Hid (R = (k3 : Int)) := I3.out.trans (stepE' fun h => by
                  cases hx : ex (T.getD k3 0)
                  · rfl
                  · exact absurd (A0.out.2 ⟨h, hx⟩) (by decide))
                go_wp2_with fail
                go_ret
                exact ⟨by rw [E.out]; rfl, rfl⟩
              case true =>
                obtain ⟨hkl, hex⟩ := A0.out.1 rfl
                have HX : Hid (ex (T.getD k3 0) = true) := hex
                clear hex A0
                go_upto_region 14 with fail
                go_cut [108] (fun t wx => ∃ t0 : Bool, t = .bool t0 ∧ w = wx ∧ Hid (t0 = true ↔ k3 + 1 < T.length ∧ sg (T.getD (k3 + 1) 0) = true))
                case first =>
                  by_cases hlt : k3 + 1 < T.length
                  · obtain ⟨b, off, rfl, hL⟩ := hT.at hlt
                    have c0 := hL (k3 + 1) hlt
                    have hd0 : decide (k3 + 1 < T.length) = true := decide_eq_true hlt
                    obtain ⟨cv, hcv⟩ : ∃ cv, T.getD (k3 + 1) 0 = cv := ⟨_, rfl⟩
                    rw [hcv] at c0
                    have HA : Hid (∀ t0 : Bool, t0 = sg cv → Hid (t0 = true ↔ k3 + 1 < T.length ∧ sg (T.getD (k3 + 1) 0) = true)) := fun t0 h => by rw [hcv, h]; exact ⟨fun h => ⟨hlt, h⟩, fun h => h.2⟩
                    clear hcv
                    by_cases h1 : cv = 43
                    · have q1 : (cv == 43) = true := beq_iff_eq.2 h1
                      have E : Hid (sg cv = true) := decide_eq_true (by omega)
                      clear h1
                      go_wp2
                      go_meet
                      case rel => exact ⟨_, rfl, rfl, HA.out _ E.out.symm⟩
                    · have q1 : (cv == 43) = false := beq_eq_false_iff_ne.2 h1
                      by_cases h2 : cv = 45
                      · have q2 : (cv == 45) = true := beq_iff_eq.2 h2
                        have E : Hid (sg cv = true) := decide_eq_true (by omega)
                        clear h1 h2
                        go_wp2
                        go_meet
                        case rel => exact ⟨_, rfl, rfl, HA.out _ E.out.symm⟩
                      · have q2 : (cv == 45) = false := beq_eq_false_iff_ne.2 h2
                        have E : Hid (sg cv = false) := decide_eq_false (by omega)
                        clear h1 h2
                        go_wp2
                        go_meet
                        case rel => exact ⟨_, rfl, rfl, HA.out _ E.out.symm⟩
                  · have hd0 : decide (k3 + 1 < T.length) = false := decide_eq_false hlt
                    go_wp2
                    go_meet
                    case rel => exact ⟨_, rfl, rfl, ⟨fun h => (by cases h), fun h => absurd h.1 hlt⟩⟩
                case rest =>
                  obtain ⟨t1, rfl, rfl, A1⟩ := hcut
                  cases t1
                  case false =>
                    have S0 := stepE hkl HX.out (j := k3 + 1) (Or.inr ⟨rfl, fun h => by
                      cases hx : sg (T.getD (k3 + 1) 0)
                      · rfl
                      · exact absurd (A1.out.2 ⟨h, hx⟩) (by decide)⟩)
                    have HS : Hid _ := S0
                    clear S0
                    go_wp2_with fail
                    rw [show ((k3 : Int) + 1) = ((k3 + 1 : Nat) : Int) from by omega]
                    refine (digits_any a cap (k3 + 1) T _ hT (by omega)).mono ?_
                    by_cases hr0 : runD (T.drop (k3 + 1)) = 0
                    · have E : Hid (R = -1) := I3.out.trans (HS.out.1 hr0)
                      rw [show ans (k3 + 1) (digs (T.drop (k3 + 1))) = -1 from by rw [digs, if_pos hr0]; rfl]
                      clear hr0
                      rintro e w' ⟨rfl, rfl⟩
                      go_wp2_with fail
                      go_ret
                      exact ⟨by rw [E.out]; rfl, rfl⟩
                    · have E : Hid (R = ((k3 + 1 + runD (T.drop (k3 + 1)) : Nat) : Int)) := by have := I3.out.trans (HS.out.2 hr0); rw [this]; simp [Hid]
                      rw [show ans (k3 + 1) (digs (T.drop (k3 + 1))) = ((k3 + 1 + runD (T.drop (k3 + 1)) : Nat) : Int) from by rw [digs, if_neg hr0]; simp [ans]]
                      clear hr0
                      rintro e w' ⟨rfl, rfl⟩
                      go_wp2_with fail
                      go_ret
                      exact ⟨by rw [E.out]; rfl, rfl⟩
                  case true =>
                    obtain ⟨hk4, hsg⟩ := A1.out.1 rfl
                    have S0 := stepE hkl HX.out (j := k3 + 2) (Or.inl ⟨rfl, hk4, hsg⟩)
                    have HS : Hid _ := S0
                    clear S0 hsg
                    go_wp2_with fail
                    rw [show ((k3 : Int) + 1 + 1) = ((k3 + 2 : Nat) : Int) from by omega]
                    refine (digits_any a cap (k3 + 2) T _ hT (by omega)).mono ?_
                    by_cases hr0 : runD (T.drop (k3 + 2)) = 0
                    · have E : Hid (R = -1) := I3.out.trans (HS.out.1 hr0)
                      rw [show ans (k3 + 2) (digs (T.drop (k3 + 2))) = -1 from by rw [digs, if_pos hr0]; rfl]
                      clear hr0
                      rintro e w' ⟨rfl, rfl⟩
                      go_wp2_with fail
                      go_ret
                      exact ⟨by rw [E.out]; rfl, rfl⟩
                    · have E : Hid (R = ((k3 + 2 + runD (T.drop (k3 + 2)) : Nat) : Int)) := by have := I3.out.trans (HS.out.2 hr0); rw [this]; simp [Hid]
                      rw [show ans (k3 + 2) (digs (T.drop (k3 + 2))) = ((k3 + 2 + runD (T.drop (k3 + 2)) : Nat) : Int) from by rw [digs, if_neg hr0]; simp [ans]]
                      clear hr0
                      rintro e w' ⟨rfl, rfl⟩
                      go_wp2_with fail
                      go_ret
                      exact ⟨by rw [E.out]; rfl, rfl⟩

end Go.Proofs.Qxb6605189a
