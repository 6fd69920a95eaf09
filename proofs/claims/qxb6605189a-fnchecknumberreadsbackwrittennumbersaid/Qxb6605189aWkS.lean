/-
  WALK: numberStep. One theorem a state.
-/
import Derived.Test.Qxb6605189aMem
import Derived.Test.Qxb6605189aNPlain
namespace Go.Proofs.Qxb6605189a
open Go.RowKit
set_option linter.unusedSimpArgs false

theorem ret_int {k : IntKind} {a b : Int} (h : a = b) : Ending.returned (.int k a) = .returned (.int k b) := by rw [h]

set_option maxHeartbeats 2000000 in
set_option maxRecDepth 100000 in
theorem step0 (c : Int) (w : World) (h0 : 0 ≤ c) (h1 : c ≤ 255) : Calls Try.prog 24 #[.int .i64 0, .int .u8 c] w fun e w' => e = .returned (.int .i64 (nstep 0 c)) ∧ w' = w := by
  go_enter Try.func24, Try.ntmps24
  go_wp2
  all_goals
    go_ret
    refine ⟨ret_int ?_, rfl⟩
    try simp only [beq_iff_eq, beq_eq_false_iff_ne] at *
    simp only [nstep, dg, nz, ex, sg, decide_eq_true_eq]
    repeat' (first | omega | split)

set_option maxHeartbeats 2000000 in
set_option maxRecDepth 100000 in
theorem step1 (c : Int) (w : World) (h0 : 0 ≤ c) (h1 : c ≤ 255) : Calls Try.prog 24 #[.int .i64 1, .int .u8 c] w fun e w' => e = .returned (.int .i64 (nstep 1 c)) ∧ w' = w := by
  go_enter Try.func24, Try.ntmps24
  go_wp2
  all_goals
    go_ret
    refine ⟨ret_int ?_, rfl⟩
    try simp only [beq_iff_eq, beq_eq_false_iff_ne] at *
    simp only [nstep, dg, nz, ex, sg, decide_eq_true_eq]
    repeat' (first | omega | split)

set_option maxHeartbeats 2000000 in
set_option maxRecDepth 100000 in
theorem step2 (c : Int) (w : World) (h0 : 0 ≤ c) (h1 : c ≤ 255) : Calls Try.prog 24 #[.int .i64 2, .int .u8 c] w fun e w' => e = .returned (.int .i64 (nstep 2 c)) ∧ w' = w := by
  go_enter Try.func24, Try.ntmps24
  go_wp2
  all_goals
    go_ret
    refine ⟨ret_int ?_, rfl⟩
    try simp only [beq_iff_eq, beq_eq_false_iff_ne] at *
    simp only [nstep, dg, nz, ex, sg, decide_eq_true_eq]
    repeat' (first | omega | split)

set_option maxHeartbeats 2000000 in
set_option maxRecDepth 100000 in
theorem step3 (c : Int) (w : World) (h0 : 0 ≤ c) (h1 : c ≤ 255) : Calls Try.prog 24 #[.int .i64 3, .int .u8 c] w fun e w' => e = .returned (.int .i64 (nstep 3 c)) ∧ w' = w := by
  go_enter Try.func24, Try.ntmps24
  go_wp2
  all_goals
    go_ret
    refine ⟨ret_int ?_, rfl⟩
    try simp only [beq_iff_eq, beq_eq_false_iff_ne] at *
    simp only [nstep, dg, nz, ex, sg, decide_eq_true_eq]
    repeat' (first | omega | split)

set_option maxHeartbeats 2000000 in
set_option maxRecDepth 100000 in
theorem step4 (c : Int) (w : World) (h0 : 0 ≤ c) (h1 : c ≤ 255) : Calls Try.prog 24 #[.int .i64 4, .int .u8 c] w fun e w' => e = .returned (.int .i64 (nstep 4 c)) ∧ w' = w := by
  go_enter Try.func24, Try.ntmps24
  go_wp2
  all_goals
    go_ret
    refine ⟨ret_int ?_, rfl⟩
    try simp only [beq_iff_eq, beq_eq_false_iff_ne] at *
    simp only [nstep, dg, nz, ex, sg, decide_eq_true_eq]
    repeat' (first | omega | split)

set_option maxHeartbeats 2000000 in
set_option maxRecDepth 100000 in
theorem step5 (c : Int) (w : World) (h0 : 0 ≤ c) (h1 : c ≤ 255) : Calls Try.prog 24 #[.int .i64 5, .int .u8 c] w fun e w' => e = .returned (.int .i64 (nstep 5 c)) ∧ w' = w := by
  go_enter Try.func24, Try.ntmps24
  go_wp2
  all_goals
    go_ret
    refine ⟨ret_int ?_, rfl⟩
    try simp only [beq_iff_eq, beq_eq_false_iff_ne] at *
    simp only [nstep, dg, nz, ex, sg, decide_eq_true_eq]
    repeat' (first | omega | split)

set_option maxHeartbeats 2000000 in
set_option maxRecDepth 100000 in
theorem step6 (c : Int) (w : World) (h0 : 0 ≤ c) (h1 : c ≤ 255) : Calls Try.prog 24 #[.int .i64 6, .int .u8 c] w fun e w' => e = .returned (.int .i64 (nstep 6 c)) ∧ w' = w := by
  by_cases p1 : c = 43
  · subst p1
    go_enter Try.func24, Try.ntmps24
    go_wp2
    go_ret
    exact ⟨rfl, rfl⟩
  by_cases p2 : c = 45
  · subst p2
    go_enter Try.func24, Try.ntmps24
    go_wp2
    go_ret
    exact ⟨rfl, rfl⟩
  have q1 : (c == 43) = false := beq_eq_false_iff_ne.2 p1
  have q2 : (c == 45) = false := beq_eq_false_iff_ne.2 p2
  have E : Hid (¬ c = 43 ∧ ¬ c = 45) := ⟨p1, p2⟩
  clear p1 p2
  go_enter Try.func24, Try.ntmps24
  go_wp2
  all_goals
    go_ret
    refine ⟨ret_int ?_, rfl⟩
    obtain ⟨p1, p2⟩ := E.out
    try simp only [beq_iff_eq, beq_eq_false_iff_ne] at *
    simp only [nstep, dg, nz, ex, sg, decide_eq_true_eq]
    repeat' (first | omega | split)

set_option maxHeartbeats 2000000 in
set_option maxRecDepth 100000 in
theorem step7 (c : Int) (w : World) (h0 : 0 ≤ c) (h1 : c ≤ 255) : Calls Try.prog 24 #[.int .i64 7, .int .u8 c] w fun e w' => e = .returned (.int .i64 (nstep 7 c)) ∧ w' = w := by
  go_enter Try.func24, Try.ntmps24
  go_wp2
  all_goals
    go_ret
    refine ⟨ret_int ?_, rfl⟩
    try simp only [beq_iff_eq, beq_eq_false_iff_ne] at *
    simp only [nstep, dg, nz, ex, sg, decide_eq_true_eq]
    repeat' (first | omega | split)

set_option maxHeartbeats 2000000 in
set_option maxRecDepth 100000 in
theorem step8 (c : Int) (w : World) (h0 : 0 ≤ c) (h1 : c ≤ 255) : Calls Try.prog 24 #[.int .i64 8, .int .u8 c] w fun e w' => e = .returned (.int .i64 (nstep 8 c)) ∧ w' = w := by
  go_enter Try.func24, Try.ntmps24
  go_wp2
  all_goals
    go_ret
    refine ⟨ret_int ?_, rfl⟩
    try simp only [beq_iff_eq, beq_eq_false_iff_ne] at *
    simp only [nstep, dg, nz, ex, sg, decide_eq_true_eq]
    repeat' (first | omega | split)

/-- numberStep. -/
theorem step_any (s : Nat) (c : Int) (w : World) (hs : s ≤ 8) (h0 : 0 ≤ c) (h1 : c ≤ 255) : Calls Try.prog 24 #[.int .i64 s, .int .u8 c] w fun e w' => e = .returned (.int .i64 (nstep s c)) ∧ w' = w := by
  match s, hs with
  | 0, _ => exact step0 c w h0 h1
  | 1, _ => exact step1 c w h0 h1
  | 2, _ => exact step2 c w h0 h1
  | 3, _ => exact step3 c w h0 h1
  | 4, _ => exact step4 c w h0 h1
  | 5, _ => exact step5 c w h0 h1
  | 6, _ => exact step6 c w h0 h1
  | 7, _ => exact step7 c w h0 h1
  | 8, _ => exact step8 c w h0 h1
  | n + 9, h => omega

end Go.Proofs.Qxb6605189a
