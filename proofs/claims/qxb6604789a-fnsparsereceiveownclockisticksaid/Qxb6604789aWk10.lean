/-
  WALKS: sameAs (where the two are one), countAt, clockWellFormed.
-/
import Derived.Test.Qxb6604789aMem
namespace Go.Proofs.Qxb6604789a
open Go.RowKit

set_option maxRecDepth 100000 in
set_option maxHeartbeats 1000000 in
/-- sameAs, both holding one list: true. -/
theorem same_any (a1 a2 : Option Addr) (cap1 cap2 : Nat) (l : List (Int × Int)) (w : World) (h1 : SlIs w a1 l) (h2 : SlIs w a2 l) :
    Calls Try.prog 14 #[.slice a1 l.length cap1, .slice a2 l.length cap2] w fun e w' => e = .returned (.bool true) ∧ ∃ n, w' = w.drewN n := by
  have hlen := h1.1
  go_enter Try.func14, Try.ntmps14
  go_wp2
  go_loopw [5] (fun i wr => ∃ k n : Nat, k ≤ l.length ∧ i = .int .i64 k ∧ wr = w.drewN n) (fun i _ => l.length - (intOf i).toNat)
  case atStart => exact ⟨0, 0, Nat.zero_le _, rfl, rfl⟩
  case round =>
    obtain ⟨k, n, hk, rfl, rfl⟩ := hrel
    by_cases hlt : k < l.length
    · obtain ⟨b1, o1, rfl, hl1⟩ := h1.at hlt
      obtain ⟨b2, o2, rfl, hl2⟩ := h2.at hlt
      obtain ⟨c0, c1⟩ := hl1 k hlt
      obtain ⟨d0, d1⟩ := hl2 k hlt
      go_wp2
      go_quiet (fail)
      go_wp2
      go_roundw
      case rel => exact ⟨k + 1, _, by omega, by go_num, rfl⟩
      case measure => simp [intOf]; omega
    · go_wp2
      go_ret
      exact ⟨rfl, _, rfl⟩

set_option maxRecDepth 100000 in
set_option maxHeartbeats 1000000 in
/-- countAt. -/
theorem count_any (a : Option Addr) (cap : Nat) (l : List (Int × Int)) (p : Int) (w : World) (h : SlIs w a l) :
    Calls Try.prog 17 #[.slice a l.length cap, .int .i64 p] w fun e w' => e = .returned (.int .u64 (cnt l p)) ∧ w' = w := by
  have hlen := h.1
  go_enter Try.func17, Try.ntmps17
  go_wp2
  go_loop [5] (fun i => ∃ k : Nat, k ≤ l.length ∧ i = .int .i64 k ∧ Hid (cnt (l.drop k) p = cnt l p)) (fun i => l.length - (intOf i).toNat)
  case atStart => exact ⟨0, Nat.zero_le _, rfl, rfl⟩
  case round =>
    obtain ⟨k, hk, rfl, I⟩ := hrel
    by_cases hlt : k < l.length
    · obtain ⟨b1, o1, rfl, hl1⟩ := h.at hlt
      obtain ⟨c0, c1⟩ := hl1 k hlt
      have I2 := I.out
      rw [drop_cons hlt] at I2
      by_cases he : eP l k = p
      · have hq : (eP l k == p) = true := beq_iff_eq.2 he
        have E : Hid (cnt l p = eN l k) := by rw [← I2, cnt, if_pos he]; trivial
        clear I2 he
        go_wp2
        go_ret
        exact ⟨by rw [E.out]; rfl, rfl⟩
      · have hq : (eP l k == p) = false := beq_eq_false_iff_ne.2 he
        have E : Hid (cnt (l.drop (k + 1)) p = cnt l p) := by rw [← I2, cnt, if_neg he]; trivial
        clear I2 he
        go_wp2
        go_round
        case rel => exact ⟨k + 1, by omega, by go_num, E⟩
        case measure => simp [intOf]; omega
    · have E : Hid (cnt l p = 0) := by have := I.out; rw [List.drop_eq_nil_of_le (by omega)] at this; exact this.symm
      go_wp2
      go_ret
      exact ⟨by rw [E.out]; rfl, rfl⟩
set_option maxHeartbeats 400000 in
/-- clockWellFormed. -/
theorem cwf_any (a : Option Addr) (cap : Nat) (l : List (Int × Int)) (w : World) (h : SlIs w a l) :
    Calls Try.prog 18 #[.slice a l.length cap] w fun e w' => e = .returned (.bool (wfB l)) ∧ ∃ n, w' = w.drewN n := by
  obtain ⟨hlen, h⟩ := h
  go_enter Try.func18, Try.ntmps18
  go_wp2
  go_loopw [3] (fun i wr => ∃ k m : Nat, k ≤ l.length ∧ i = .int .i64 k ∧ wr = w.drewN m ∧ ∀ j, j < k → eN l j ≠ 0 ∧ (0 < j → eP l (j - 1) < eP l j)) (fun i _ => l.length - (intOf i).toNat)
  case atStart => exact ⟨0, 0, Nat.zero_le _, rfl, rfl, by omega⟩
  case round =>
    obtain ⟨k, m, hk, rfl, rfl, hj⟩ := hrel
    have A : Hid (∀ j, j < k → eN l j ≠ 0 ∧ (0 < j → eP l (j - 1) < eP l j)) := hj
    clear hj
    by_cases hlt : k < l.length
    · obtain ⟨b, off, rfl, hc⟩ := h (ne_nil_of hlt)
      obtain ⟨c0, c1⟩ := hc k hlt
      by_cases h0 : k = 0
      · have hd : decide (0 < k) = false := decide_eq_false (by omega)
        have H0 : Hid (k = 0) := h0
        clear h0
        go_wp2
        · go_ret
          exact ⟨by rw [wfB_bad hlt (Or.inl (by simpa using ‹(eN l k == 0) = true›))]; rfl, _, rfl⟩
        go_quiet (fail)
        go_wp2
        go_roundw
        case rel =>
          refine ⟨k + 1, _, by omega, by go_num, rfl, fun j hj => ?_⟩
          have := H0.out
          have : j = k := by omega
          subst this
          exact ⟨by simpa using ‹(eN l j == 0) = false›, by omega⟩
        case measure => simp [intOf]; omega
      · obtain ⟨d0, d1⟩ := hc (k - 1) (by omega)
        have hk1 : (0 : Int) < (k : Int) := by omega
        have hk2 : 0 < k := by omega
        have e1 : ((k : Int) - 1).toNat = k - 1 := by omega
        go_wp2
        · go_ret
          exact ⟨by rw [wfB_bad hlt (Or.inl (by simpa using ‹(eN l k == 0) = true›))]; rfl, _, rfl⟩
        go_quiet (fail)
        go_wp2
        · go_ret
          exact ⟨by rw [wfB_bad hlt (Or.inr ⟨hk2, ‹_›⟩)]; rfl, _, drewN_two _ _ _⟩
        go_roundw
        case rel =>
          refine ⟨k + 1, _, by omega, by go_num, rfl, fun j hj => ?_⟩
          by_cases hjk : j = k
          · subst hjk
            exact ⟨by simpa using ‹(eN l j == 0) = false›, fun _ => ‹_›⟩
          · exact A.out j (by omega)
        case measure => simp [intOf]; omega
    · go_wp2
      go_ret
      refine ⟨?_, _, rfl⟩
      have : k = l.length := by omega
      subst this
      rw [show wfB l = true from decide_eq_true A.out]; rfl

end Go.Proofs.Qxb6604789a
