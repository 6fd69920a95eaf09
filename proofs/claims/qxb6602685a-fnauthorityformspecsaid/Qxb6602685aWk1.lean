/-
  WALKS: urlpathB1In, LastIndexByteString, LastIndexByte, unreservedOrSubDelim, regName.
-/
import Derived.Test.Qxb6602685aPlain
namespace Go.Proofs.Qxb6602685a
set_option linter.unusedSimpArgs false
open Go.RowKit

/-- A bool is returned, true exactly where p. -/
def RetB (p : Prop) (e : Ending) : Prop := ∃ b, e = .returned (.bool b) ∧ (b = true ↔ p)

theorem iff_yes {p : Prop} (h : p) : (true = true ↔ p) := ⟨fun _ => h, fun _ => rfl⟩
theorem iff_no {p : Prop} (h : ¬ p) : (false = true ↔ p) := ⟨fun e => absurd e (by decide), fun x => absurd x h⟩

set_option maxHeartbeats 1000000 in
theorem in_any (c : Int) (s : ByteArray) (w : World) (hs : s.size ≤ 1000) :
    Calls Try.prog 17 #[.int .u8 c, .string s] w fun e w' => RetB (∃ j, j < s.size ∧ bt s j = c) e ∧ w' = w := by
  go_enter Try.func17, Try.ntmps17
  go_wp2_with fail
  go_loop [5] (fun i => ∃ k : Nat, k ≤ s.size ∧ i = .int .i64 k ∧ Hid (∀ j, j < k → bt s j ≠ c)) (fun i => s.size - (intOf i).toNat)
  case atStart => exact ⟨0, Nat.zero_le _, rfl, fun j hj => absurd hj (by omega)⟩
  case round =>
    obtain ⟨k, hk, rfl, I⟩ := hrel
    by_cases hlt : k < s.size
    · have hc := bt_at hlt
      by_cases he : bt s k = c
      · have q : (bt s k == c) = true := beq_iff_eq.2 he
        have E : Hid (bt s k = c) := he
        clear he
        go_wp2_with fail
        go_ret
        exact ⟨⟨_, rfl, fun _ => ⟨k, hlt, E.out⟩, fun _ => rfl⟩, rfl⟩
      · have q : (bt s k == c) = false := beq_eq_false_iff_ne.2 he
        have E : Hid (bt s k ≠ c) := he
        clear he
        go_wp2_with fail
        go_round
        case rel => exact ⟨k + 1, by omega, by go_num, fun j hj => by
          rcases Nat.lt_or_ge j k with h | h
          · exact I.out j h
          · rw [show j = k by omega]; exact E.out⟩
        case measure => simp [intOf]; omega
    · have q : decide ((k : Int) < (s.size : Int)) = false := decide_eq_false (by omega)
      go_wp2_with fail
      go_ret
      exact ⟨⟨_, rfl, fun h => by simp at h, fun ⟨j, h1, h2⟩ => absurd h2 (I.out j (by omega))⟩, rfl⟩

set_option maxHeartbeats 1000000 in
theorem lastS_any (s : ByteArray) (w : World) (hs : s.size ≤ 10000000) :
    Calls Try.prog 20 #[.string s, .int .u8 58] w fun e w' => (∃ r : Int, e = .returned (.int .i64 r) ∧ ((r = -1 ∧ ∀ j, j < s.size → bt s j ≠ 58) ∨ ∃ i : Nat, r = (i : Int) ∧ Last (bt s) s.size i)) ∧ w' = w := by
  go_enter Try.func20, Try.ntmps20
  go_wp2_with fail
  go_loop [5] (fun i => ∃ k : Nat, k ≤ s.size ∧ i = .int .i64 ((k : Int) - 1) ∧ Hid (∀ j, k ≤ j → j < s.size → bt s j ≠ 58)) (fun i => (intOf i + 1).toNat)
  case atStart => exact ⟨s.size, Nat.le_refl _, rfl, fun j h1 h2 => absurd h1 (by omega)⟩
  case round =>
    obtain ⟨k, hk, rfl, I⟩ := hrel
    by_cases h0 : k = 0
    · subst h0
      go_wp2_with fail
      go_ret
      exact ⟨⟨-1, rfl, Or.inl ⟨rfl, fun j hj => I.out j (by omega) hj⟩⟩, rfl⟩
    · obtain ⟨m, rfl⟩ : ∃ m, k = m + 1 := ⟨k - 1, by omega⟩
      have hm : m < s.size := by omega
      have hc := bt_at hm
      have e1 : ((m + 1 : Nat) : Int) - 1 = (m : Int) := by omega
      rw [e1]
      by_cases he : bt s m = 58
      · have q : (bt s m == 58) = true := beq_iff_eq.2 he
        have E : Hid (bt s m = 58) := he
        clear he e1 h0
        go_wp2_with fail
        go_ret
        exact ⟨⟨m, rfl, Or.inr ⟨m, rfl, hm, E.out, fun j h1 h2 => I.out j (by omega) h2⟩⟩, rfl⟩
      · have q : (bt s m == 58) = false := beq_eq_false_iff_ne.2 he
        have E : Hid (bt s m ≠ 58) := he
        clear he e1 h0
        go_wp2_with fail
        go_round
        case rel => exact ⟨m, by omega, rfl, fun j h1 h2 => by
          rcases Nat.lt_or_ge m j with h | h
          · exact I.out j (by omega) h2
          · rw [show j = m by omega]; exact E.out⟩
        case measure => simp [intOf]

theorem last_any (s : ByteArray) (w : World) (hs : s.size ≤ 10000000) :
    Calls Try.prog 18 #[.string s, .int .u8 58] w fun e w' => (∃ r : Int, e = .returned (.int .i64 r) ∧ ((r = -1 ∧ ∀ j, j < s.size → bt s j ≠ 58) ∨ ∃ i : Nat, r = (i : Int) ∧ Last (bt s) s.size i)) ∧ w' = w := by
  go_enter Try.func18, Try.ntmps18
  go_wp2_with fail
  refine (lastS_any s w hs).mono ?_
  rintro e w' ⟨⟨r, rfl, hr⟩, rfl⟩
  have HR : Hid _ := hr
  clear hr
  go_wp2_with fail
  go_ret
  exact ⟨⟨r, rfl, HR.out⟩, rfl⟩

set_option maxHeartbeats 4000000 in
set_option maxRecDepth 100000 in
theorem unres_any (c : Int) (w : World) (h0 : 0 ≤ c) (h1 : c ≤ 255) (h2 : c ≠ 37) :
    Calls Try.prog 21 #[.int .u8 c] w fun e w' => RetB (regB c = true) e ∧ w' = w := by
  go_enter Try.func21, Try.ntmps21
  go_wp2
  all_goals
    go_ret
    refine ⟨⟨_, rfl, ?_⟩, rfl⟩
    first
      | (refine iff_yes ?_; (try simp only [beq_iff_eq, beq_eq_false_iff_ne] at *); simp only [regB, decide_eq_true_eq]; omega)
      | (refine iff_no ?_; (try simp only [beq_iff_eq, beq_eq_false_iff_ne] at *); simp only [regB, decide_eq_true_eq]; omega)

theorem reg_any (c : Int) (w : World) (h0 : 0 ≤ c) (h1 : c ≤ 255) :
    Calls Try.prog 19 #[.int .u8 c] w fun e w' => RetB (regB c = true) e ∧ w' = w := by
  by_cases h2 : c = 37
  · subst h2
    go_enter Try.func19, Try.ntmps19
    go_wp2_with fail
    go_ret
    exact ⟨⟨_, rfl, fun _ => by decide, fun _ => rfl⟩, rfl⟩
  · have q : (c == 37) = false := beq_eq_false_iff_ne.2 h2
    have H2 : Hid (c ≠ 37) := h2
    clear h2
    go_enter Try.func19, Try.ntmps19
    go_wp2_with fail
    refine (unres_any c w h0 h1 H2.out).mono ?_
    rintro e w' ⟨⟨b, rfl, hb⟩, rfl⟩
    have HB : RetB (regB c = true) (.returned (.bool b)) := ⟨b, rfl, hb⟩
    clear hb
    go_wp2_with fail
    go_ret
    exact ⟨HB, rfl⟩

end Go.Proofs.Qxb6602685a
