/-
  WALK: numberEndModel.
-/
import Derived.Test.Qxb6605189aWkS
namespace Go.Proofs.Qxb6605189a
open Go.RowKit

theorem nstep_le (s : Nat) (c : Int) : nstep s c ≤ 9 := by
  unfold nstep
  repeat' (first | omega | split)

theorem acc_step {T : List Int} {s j : Nat} (hj : j < T.length) (h : nstep s (T.getD j 0) ≠ 9) : ans j (acc s (T.drop j)) = ans (j + 1) (acc (nstep s (T.getD j 0)) (T.drop (j + 1))) := by
  rw [drop_at hj, acc_cons, if_neg h, ans_map]
theorem acc_halt {T : List Int} {s j : Nat} (h : j < T.length → nstep s (T.getD j 0) = 9) : ans j (acc s (T.drop j)) = if fin s then (j : Int) else -1 := by
  by_cases hj : j < T.length
  · rw [drop_at hj, acc_cons, if_pos (h hj)]
    cases fin s <;> simp [ans]
  · rw [List.drop_eq_nil_of_le (by omega), acc_nil]
    cases fin s <;> simp [ans]

set_option maxHeartbeats 2000000 in
set_option maxRecDepth 100000 in
theorem end_any (a : Option Addr) (cap k : Nat) (T : List Int) (w : World) (hT : BIs w a T) (hb : ∀ c ∈ T, 0 ≤ c ∧ c ≤ 255) (_hk : k ≤ 9223372036854775807) :
    Calls Try.prog 13 #[.slice a T.length cap, .int .i64 k] w fun e w' => e = .returned (.int .i64 (ans k (acc 0 (T.drop k)))) ∧ w' = w := by
  have hlen := hT.1
  generalize hR : ans k (acc 0 (T.drop k)) = R
  have HR : Hid (ans k (acc 0 (T.drop k)) = R) := hR
  clear hR
  go_enter Try.func13, Try.ntmps13
  go_wp2_with fail
  go_loop [5, 6] (fun sv pv => ∃ s j : Nat, s ≤ 8 ∧ (j = k ∨ j ≤ T.length) ∧ sv = .int .i64 s ∧ pv = .int .i64 j ∧ Hid (R = ans j (acc s (T.drop j)))) (fun _ pv => T.length - (intOf pv).toNat)
  case atStart => exact ⟨0, k, by omega, Or.inl rfl, rfl, rfl, HR.out.symm⟩
  case round =>
    obtain ⟨s, j, hs, hjl, rfl, rfl, I⟩ := hrel
    have fin_ret : Hid ((j < T.length → nstep s (T.getD j 0) = 9) → R = if fin s then (j : Int) else -1) := fun h => I.out.trans (acc_halt h)
    by_cases hlt : j < T.length
    · obtain ⟨b, off, rfl, hL⟩ := hT.at hlt
      have c0 := hL j hlt
      have hcb : 0 ≤ T.getD j 0 ∧ T.getD j 0 ≤ 255 := by
        have e : T.getD j 0 = T[j] := by simp [List.getD, hlt]
        rw [e]; exact hb _ (List.getElem_mem hlt)
      have H1 : Hid (nstep s (T.getD j 0) ≠ 9 → R = ans (j + 1) (acc (nstep s (T.getD j 0)) (T.drop (j + 1)))) := fun h => I.out.trans (acc_step hlt h)
      have hle := nstep_le s (T.getD j 0)
      generalize T.getD j 0 = cv at *
      obtain ⟨hc1, hc2⟩ := hcb
      go_wp2_with fail
      refine (step_any s cv _ hs hc1 hc2).mono ?_
      generalize nstep s cv = s2 at *
      rintro e w' ⟨rfl, rfl⟩
      by_cases h9 : s2 = 9
      · have q9 : ((s2 : Int) == 9) = true := beq_iff_eq.2 (by omega)
        have E : Hid (R = if fin s then (j : Int) else -1) := fin_ret.out (fun _ => h9)
        clear fin_ret H1 I
        obtain rfl | rfl | rfl | rfl | rfl | rfl | rfl | rfl | rfl : s = 0 ∨ s = 1 ∨ s = 2 ∨ s = 3 ∨ s = 4 ∨ s = 5 ∨ s = 6 ∨ s = 7 ∨ s = 8 := by omega
        all_goals (go_wp2_with fail; go_ret; exact ⟨by rw [E.out]; rfl, rfl⟩)
      · have q9 : ((s2 : Int) == 9) = false := beq_eq_false_iff_ne.2 (by omega)
        go_wp2_with fail
        go_round
        case rel => exact ⟨s2, j + 1, by omega, Or.inr (by omega), rfl, by go_num, H1.out h9⟩
        case measure => simp [intOf]; omega
    · have E : Hid (R = if fin s then (j : Int) else -1) := fin_ret.out (fun h => absurd h hlt)
      have ql : decide ((j : Int) < (T.length : Int)) = false := decide_eq_false (by omega)
      clear fin_ret I
      obtain rfl | rfl | rfl | rfl | rfl | rfl | rfl | rfl | rfl : s = 0 ∨ s = 1 ∨ s = 2 ∨ s = 3 ∨ s = 4 ∨ s = 5 ∨ s = 6 ∨ s = 7 ∨ s = 8 := by omega
      all_goals (go_wp2_with fail; go_ret; exact ⟨by rw [E.out]; rfl, rfl⟩)

end Go.Proofs.Qxb6605189a
