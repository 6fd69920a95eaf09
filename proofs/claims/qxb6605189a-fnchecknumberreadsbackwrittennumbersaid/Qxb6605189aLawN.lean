/-
  THE LAW FnCheckNumberMatchesGrammarAutomaton: its walk.
-/
import Derived.Test.Qxb6605189aWkN
import Derived.Test.Qxb6605189aWkM
import Derived.Laws.CopyOwn
namespace Go.Proofs.Qxb6605189a
open Go.RowKit

theorem bytes11_any (a : Option Addr) (n cn : Nat) (i : Int) (w : World) (hn : n ≤ maxLen) :
    Calls Try.prog 11 #[.slice a n cn, .int .i64 i] w fun e w' => (∃ t, e = .returned (.bool t)) ∧ w' = w := by
  unfold maxLen at hn
  go_enter Try.func11, Try.ntmps11
  go_wp2
  all_goals
    go_ret
    exact ⟨⟨_, rfl⟩, rfl⟩

/-- ZZcheckNumber. -/
theorem znum_any (a : Option Addr) (cap k : Nat) (T : List Int) (w : World) (hT : BIs w a T) (hk : k ≤ 9223372036854775807) :
    Calls Try.prog 12 #[.slice a T.length cap, .int .i64 k] w fun e w' => e = .returned (.int .i64 (ans k (rdN (T.drop k)))) ∧ w' = w := by
  go_enter Try.func12, Try.ntmps12
  go_wp2_with fail
  refine (num_any a cap k T w hT hk).mono ?_
  rintro e w' ⟨rfl, rfl⟩
  go_wp2_with fail
  go_ret
  exact ⟨rfl, rfl⟩

theorem endN_any (a : Option Addr) (cap k : Nat) (T : List Int) (w : World) (hT : BIs w a T) (hb : ∀ c ∈ T, 0 ≤ c ∧ c ≤ 255) (hk : k ≤ 9223372036854775807) :
    Calls Try.prog 13 #[.slice a T.length cap, .int .i64 k] w fun e w' => e = .returned (.int .i64 (ans k (rdN (T.drop k)))) ∧ w' = w := by
  rw [← acc0]
  exact end_any a cap k T w hT hb hk

/-- make([]byte, len(text)); copy(it, text). -/
theorem run_copyB (w : World) (x : Addr) (cap : Nat) (T : List Int) (hT : BIs w (some x) T) :
    ∃ W2, (Builtin.copy_ #[22, 22] 3 #[.slice (some ⟨w.heap.size, 0, none⟩) T.length T.length, .slice (some x) T.length cap]).run Try.prog (w.alloc (.cells (madeCells #[.int .u8 0] T.length) 5)) = .ok (goInt T.length) W2 ∧
      BIs W2 (some ⟨w.heap.size, 0, none⟩) T ∧ Below w.heap.size w W2 := by
  have hBl : (bytesV T).length = T.length := by simp [bytesV]
  have hg := heap_alloc_new w (.cells (madeCells #[.int .u8 0] T.length) 5)
  have hr := run_copy_row (P := Try.prog) (w.alloc (.cells (madeCells #[.int .u8 0] T.length) 5)) 22 22 3 5 w.heap.size 0 T.length T.length x T.length cap _ 5 (bytesV T) Try.underlying22 (by kernel_rfl) hg (by rw [hBl]; exact (Nat.min_self _).symm) (fun j v hv => by
      have hj : j < T.length := by
        have := (List.getElem?_eq_some_iff.1 hv).1
        simpa [bytesV] using this
      obtain ⟨b, off, e, hl⟩ := (hT.alloc (.cells (madeCells #[.int .u8 0] T.length) 5)).at hj
      obtain rfl : x = ⟨b, off, none⟩ := by simpa using e
      rw [Addr.add_lit, hl j hj]
      simpa [bytesV, hj, List.getD] using hv) (by rw [hBl, size_madeCells]; omega) (bytesV_one T)
  have hc : ((madeCells #[Value.int .u8 0] T.length).toList.take 0 ++ bytesV T ++ (madeCells #[Value.int .u8 0] T.length).toList.drop (0 + (bytesV T).length)) = bytesV T := by
    rw [List.take_zero, List.nil_append, List.drop_eq_nil_of_le (by simp [size_madeCells, hBl]), List.append_nil]
  rw [hc, hBl] at hr
  refine ⟨_, hr, ⟨hT.1, fun _ => ⟨w.heap.size, 0, rfl, fun i hi => ?_⟩⟩, below_setRow ((Below.refl _ _).alloc (Nat.le_refl _) _) (Nat.le_refl _) _⟩
  have h := setRow_heap _ _ _ (bytesV T).toArray _ _ hg
  simp only [World.cell?, h, Nat.zero_add]
  simp [bytesV, hi, List.getD]

set_option maxHeartbeats 2000000 in
set_option maxRecDepth 100000 in
theorem law_num (a0 : Option Addr) (n0 cap0 : Nat) (i : Int) (w : World) (h0 : BCame w a0 n0 cap0) (hi : i ≤ 9223372036854775807) :
    Calls Try.prog 4 #[.slice a0 n0 cap0, .int .i64 i] w fun e w' => e = .returned (.bool true) ∧ Below w.heap.size w w' := by
  have m0 : n0 ≤ maxLen := Nat.le_trans h0.1 h0.2.1
  have C0 : Hid (BCame w a0 n0 cap0) := h0
  clear h0
  go_enter Try.func4, Try.ntmps4
  go_wp2_with fail
  refine (bytes11_any a0 n0 cap0 i _ m0).mono ?_
  rintro e w' ⟨⟨t, rfl⟩, rfl⟩
  cases t
  case false =>
    go_wp2_with fail
    go_ret
    exact ⟨rfl, Below.refl _ _⟩
  by_cases hb0 : 1048576 < n0
  · have : (1048576 : Int) < n0 := by omega
    go_wp2_with fail
    go_ret
    exact ⟨rfl, Below.refl _ _⟩
  have d0 : decide ((1048576 : Int) < n0) = false := decide_eq_false (by omega)
  by_cases hi0 : i < 0
  · go_wp2_with fail
    go_ret
    exact ⟨rfl, Below.refl _ _⟩
  have d1 : decide (i < 0) = false := decide_eq_false (by omega)
  obtain ⟨k, rfl⟩ : ∃ k : Nat, i = (k : Int) := ⟨i.toNat, by omega⟩
  obtain ⟨k1, k2, nil0, T, rfl, rT, sT⟩ := C0.out
  have sT := sT (by omega)
  clear C0
  have hk : k ≤ 9223372036854775807 := by omega
  cases a0 with
  | none =>
    have hn := run_neq_slice_nil_any (P := Try.prog) w' 22 5 none T.length cap0 0 0 Try.underlying22
    go_wp2_with fail
    refine (znum_any none _ k T _ sT hk).mono ?_
    rintro e w2 ⟨rfl, rfl⟩
    go_wp2_with fail
    refine (endN_any none _ k T _ sT rT hk).mono ?_
    rintro e w2 ⟨rfl, rfl⟩
    generalize ans k (rdN (T.drop k)) = R
    go_wp2_with fail
    go_ret
    exact ⟨rfl, Below.refl _ _⟩
  | some x =>
    have hn := run_neq_slice_nil_any (P := Try.prog) w' 22 5 (some x) T.length cap0 0 0 Try.underlying22
    have hmk := fun w => run_make_row' (P := Try.prog) 22 5 (.int .u8 0) 1 Try.underlying22 (by kernel_rfl) rfl .i64 .i64 T.length (by omega) (by omega) w
    obtain ⟨w2, hcp, sT2, hb2⟩ := run_copyB w' x cap0 T sT
    go_wp2_with fail
    refine (znum_any _ _ k T _ sT2 hk).mono ?_
    rintro e w3 ⟨rfl, rfl⟩
    go_wp2_with fail
    refine (endN_any _ _ k T _ sT2 rT hk).mono ?_
    rintro e w3 ⟨rfl, rfl⟩
    generalize ans k (rdN (T.drop k)) = R
    go_wp2_with fail
    go_ret
    exact ⟨rfl, hb2⟩

end Go.Proofs.Qxb6605189a
