/-
  WALKS: hexDigit, checkEscape.
-/
import Derived.Test.Qxb6605189aMem
namespace Go.Proofs.Qxb6605189a
open Go.RowKit

/-- A hexadecimal digit. -/
def IsHex (c : Int) : Prop := (48 ≤ c ∧ c ≤ 57) ∨ (97 ≤ c ∧ c ≤ 102) ∨ (65 ≤ c ∧ c ≤ 70)

theorem hex_any (d : Int) (u : Bool) (w : World) (h0 : 0 ≤ d) (h1 : d ≤ 15) : Calls Try.prog 9 #[.int .i64 d, .bool u] w fun e w' => (∃ c, e = .returned (.int .u8 c) ∧ IsHex c) ∧ w' = w := by
  by_cases hd : d < 10
  · go_enter Try.func9, Try.ntmps9
    go_wp2
    go_ret
    exact ⟨⟨_, rfl, by unfold IsHex; omega⟩, rfl⟩
  · cases u
    · go_enter Try.func9, Try.ntmps9
      go_wp2
      go_ret
      exact ⟨⟨_, rfl, by unfold IsHex; omega⟩, rfl⟩
    · go_enter Try.func9, Try.ntmps9
      go_wp2
      go_ret
      exact ⟨⟨_, rfl, by unfold IsHex; omega⟩, rfl⟩

set_option maxHeartbeats 1000000 in
set_option maxRecDepth 100000 in
/-- checkEscape at a backslash-u escape. -/
theorem esc_yes (b off n cap k : Nat) (T : List Int) (w : World) (hT : BLies w b off T) (hn : T.length = n) (hcap : n ≤ cap) (hk : k + 6 ≤ n) (hnn : n ≤ 4000000) (hcm : cap ≤ maxLen) (hu : T.getD (k + 1) 0 = 117) (hh : ∀ j, j < 4 → IsHex (T.getD (k + 2 + j) 0)) :
    Calls Try.prog 22 #[.slice (some ⟨b, off, none⟩) n cap, .int .i64 k] w fun e w' => e = .returned (.int .i64 (k + 6)) ∧ w' = w := by
  have c1 := hT (k + 1) (by omega)
  rw [hu] at c1
  have hcm' : cap ≤ 9223372036854775807 := hcm
  have b1 : ¬ cap = k + 2 := by omega
  have b2 : ((k : Int) + 1 == (n : Int)) = false := beq_eq_false_iff_ne.2 (by omega)
  have b3 : decide ((n : Int) < (k : Int) + 6) = false := decide_eq_false (by omega)
  go_enter Try.func22, Try.ntmps22
  go_wp2
  go_loop [42] (fun i => ∃ j : Nat, j ≤ 4 ∧ i = .int .i64 j) (fun i => 4 - (intOf i).toNat)
  case atStart => exact ⟨0, by omega, rfl⟩
  case round =>
    obtain ⟨j, hj, rfl⟩ := hrel
    by_cases hlt : j < 4
    · have cj := hT (k + 2 + j) (by omega)
      have hx := hh j hlt
      rw [← Nat.add_assoc] at cj
      generalize T.getD (k + 2 + j) 0 = cv at cj hx
      unfold IsHex at hx
      rcases hx with hx | hx | hx
      · obtain ⟨hx1, hx2⟩ := hx
        go_wp2
        go_round
        case rel => exact ⟨j + 1, by omega, by go_num⟩
        case measure => simp [intOf]; omega
      · obtain ⟨hx1, hx2⟩ := hx
        have d1 : decide (cv ≤ 57) = false := decide_eq_false (by omega)
        go_wp2
        exact ⟨⟨_, _, .int .i64 ((j : Int) + 1), ⟨j + 1, by omega, by go_num⟩, rfl, rfl, rfl⟩, by simp [intOf]; omega⟩
      · obtain ⟨hx1, hx2⟩ := hx
        have d1 : decide (cv ≤ 57) = false := decide_eq_false (by omega)
        have d2 : decide (97 ≤ cv) = false := decide_eq_false (by omega)
        go_wp2
        exact ⟨⟨_, _, .int .i64 ((j : Int) + 1), ⟨j + 1, by omega, by go_num⟩, rfl, rfl, rfl⟩, by simp [intOf]; omega⟩
    · go_wp2
      go_ret
      exact ⟨rfl, rfl⟩

set_option maxHeartbeats 1000000 in
set_option maxRecDepth 100000 in
/-- checkEscape at a text that is cut behind its third digit. -/
theorem esc_cut (b off n cap k : Nat) (T : List Int) (w : World) (hT : BLies w b off T) (hn : T.length = n) (hk : k + 5 = n) (hnn : n ≤ 4000000) (hu : T.getD (k + 1) 0 = 117) :
    Calls Try.prog 22 #[.slice (some ⟨b, off, none⟩) n cap, .int .i64 k] w fun e w' => e = .returned (.int .i64 (-1)) ∧ w' = w := by
  have c1 := hT (k + 1) (by omega)
  rw [hu] at c1
  have b2 : ((k : Int) + 1 == (n : Int)) = false := beq_eq_false_iff_ne.2 (by omega)
  have b3 : (n : Int) < (k : Int) + 6 := by omega
  have HK : Hid (k + 5 = n) := hk
  have b4 : k + 1 < n := by omega
  clear hk
  go_enter Try.func22, Try.ntmps22
  go_wp2
  go_ret
  exact ⟨rfl, rfl⟩

/-- ZZcheckEscape. -/
theorem zesc_yes (b off n cap k : Nat) (T : List Int) (w : World) (hT : BLies w b off T) (hn : T.length = n) (hcap : n ≤ cap) (hk : k + 6 ≤ n) (hnn : n ≤ 4000000) (hcm : cap ≤ maxLen) (hu : T.getD (k + 1) 0 = 117) (hh : ∀ j, j < 4 → IsHex (T.getD (k + 2 + j) 0)) :
    Calls Try.prog 10 #[.slice (some ⟨b, off, none⟩) n cap, .int .i64 k] w fun e w' => e = .returned (.int .i64 (k + 6)) ∧ w' = w := by
  go_enter Try.func10, Try.ntmps10
  go_wp2_with fail
  refine (esc_yes b off n cap k T w hT hn hcap hk hnn hcm hu hh).mono ?_
  rintro e w' ⟨rfl, rfl⟩
  go_wp2_with fail
  go_ret
  exact ⟨rfl, rfl⟩
theorem zesc_cut (b off n cap k : Nat) (T : List Int) (w : World) (hT : BLies w b off T) (hn : T.length = n) (hk : k + 5 = n) (hnn : n ≤ 4000000) (hu : T.getD (k + 1) 0 = 117) :
    Calls Try.prog 10 #[.slice (some ⟨b, off, none⟩) n cap, .int .i64 k] w fun e w' => e = .returned (.int .i64 (-1)) ∧ w' = w := by
  go_enter Try.func10, Try.ntmps10
  go_wp2_with fail
  refine (esc_cut b off n cap k T w hT hn hk hnn hu).mono ?_
  rintro e w' ⟨rfl, rfl⟩
  go_wp2_with fail
  go_ret
  exact ⟨rfl, rfl⟩

end Go.Proofs.Qxb6605189a
