/-
  WALKS: wellFormed, zzBytes of Compare's law, converse, search.
-/
import Derived.Test.Qxb6604789aMem
namespace Go.Proofs.Qxb6604789a
open Go.RowKit

set_option maxHeartbeats 400000 in
/-- wellFormed. -/
theorem wf_any (a : Option Addr) (cap : Nat) (l : List (Int × Int)) (w : World) (h : SlIs w a l) :
    Calls Try.prog 8 #[.slice a l.length cap] w fun e w' => e = .returned (.bool (wfB l)) ∧ ∃ n, w' = w.drewN n := by
  obtain ⟨hlen, h⟩ := h
  go_enter Try.func8, Try.ntmps8
  go_wp2
  go_loopw [3] (fun i wr => ∃ k m : Nat, k ≤ l.length ∧ i = .int .i64 k ∧ wr = w.drewN m ∧ ∀ j, j < k → eN l j ≠ 0 ∧ (0 < j → eP l (j - 1) < eP l j)) (fun i _ => l.length - (intOf i).toNat)
  case atStart => exact ⟨0, 0, Nat.zero_le _, rfl, rfl, by omega⟩
  case round =>
    obtain ⟨k, m, hk, rfl, rfl, hj⟩ := hrel
    have A : Hid (∀ j, j < k → eN l j ≠ 0 ∧ (0 < j → eP l (j - 1) < eP l j)) := hj
    clear hj
    by_cases hlt : k < l.length
    · obtain ⟨b, off, rfl, hc⟩ := h (ne_nil_of hlt)
      obtain ⟨c0, c1⟩ := hc k hlt
      by_cases h0 : k = 0
      · have hd : decide (0 < k) = false := decide_eq_false (by omega)
        have H0 : Hid (k = 0) := h0
        clear h0
        go_wp2
        · go_ret
          exact ⟨by rw [wfB_bad hlt (Or.inl (by simpa using ‹(eN l k == 0) = true›))]; rfl, _, rfl⟩
        go_quiet (fail)
        go_wp2
        go_roundw
        case rel =>
          refine ⟨k + 1, _, by omega, by go_num, rfl, fun j hj => ?_⟩
          have := H0.out
          have : j = k := by omega
          subst this
          exact ⟨by simpa using ‹(eN l j == 0) = false›, by omega⟩
        case measure => simp [intOf]; omega
      · obtain ⟨d0, d1⟩ := hc (k - 1) (by omega)
        have hk1 : (0 : Int) < (k : Int) := by omega
        have hk2 : 0 < k := by omega
        have e1 : ((k : Int) - 1).toNat = k - 1 := by omega
        go_wp2
        · go_ret
          exact ⟨by rw [wfB_bad hlt (Or.inl (by simpa using ‹(eN l k == 0) = true›))]; rfl, _, rfl⟩
        go_quiet (fail)
        go_wp2
        · go_ret
          exact ⟨by rw [wfB_bad hlt (Or.inr ⟨hk2, ‹_›⟩)]; rfl, _, drewN_two _ _ _⟩
        go_roundw
        case rel =>
          refine ⟨k + 1, _, by omega, by go_num, rfl, fun j hj => ?_⟩
          by_cases hjk : j = k
          · subst hjk
            exact ⟨by simpa using ‹(eN l j == 0) = false›, fun _ => ‹_›⟩
          · exact A.out j (by omega)
        case measure => simp [intOf]; omega
    · go_wp2
      go_ret
      refine ⟨?_, _, rfl⟩
      have : k = l.length := by omega
      subst this
      rw [show wfB l = true from decide_eq_true A.out]; rfl

/-- zzBytes of Compare's law, where both lengths are small. -/
theorem bytes7 (a b : Option Addr) (n m cn cm : Nat) (w : World) (h : (n : Int) + m ≤ 1048576) :
    Calls Try.prog 7 #[.slice a n cn, .slice b m cm] w fun e w' => e = .returned (.bool true) ∧ w' = w := by
  go_enter Try.func7, Try.ntmps7
  go_wp2
  go_ret
  exact ⟨rfl, rfl⟩

/-- converse. -/
theorem conv_any (r : Int) (w : World) : Calls Try.prog 21 #[.int .i64 r] w fun e w' => e = .returned (.int .i64 (conv r)) ∧ w' = w := by
  by_cases h1 : r = 1
  · have e : (r == 1) = true := by simpa using h1
    have E : Hid (conv r = 2) := by subst h1; rfl
    clear h1
    go_enter Try.func21, Try.ntmps21
    go_wp2
    go_ret
    exact ⟨by rw [E.out]; rfl, rfl⟩
  by_cases h2 : r = 2
  · have e1 : (r == 1) = false := by simpa using h1
    have e : (r == 2) = true := by simpa using h2
    have E : Hid (conv r = 1) := by subst h2; rfl
    clear h1 h2
    go_enter Try.func21, Try.ntmps21
    go_wp2
    go_ret
    exact ⟨by rw [E.out]; rfl, rfl⟩
  · have e1 : (r == 1) = false := by simpa using h1
    have e : (r == 2) = false := by simpa using h2
    have E : Hid (conv r = r) := by unfold conv; rw [if_neg h1, if_neg h2]; trivial
    clear h1 h2
    go_enter Try.func21, Try.ntmps21
    go_wp2
    go_ret
    exact ⟨by rw [E.out]; rfl, rfl⟩

set_option maxHeartbeats 400000 in
theorem search_any (a : Option Addr) (cap : Nat) (l : List (Int × Int)) (p : Int) (w : World) (h : SlIs w a l) (hg : Good l) :
    Calls Try.prog 20 #[.slice a l.length cap, .int .i64 p] w fun e w' => ∃ k : Nat, e = .returned (.tuple #[.int .i64 k, .bool (decide (k < l.length ∧ eP l k = p))]) ∧ Found l p k ∧ ∃ n, w' = w.drewN n := by
  obtain ⟨hlen, h⟩ := h
  go_enter Try.func20, Try.ntmps20
  go_wp2
  go_loop [6, 7] (fun lo hi => ∃ x y : Nat, x ≤ y ∧ y ≤ l.length ∧ lo = .int .i64 x ∧ hi = .int .i64 y ∧ (∀ i, i < x → eP l i < p) ∧ (∀ i, y ≤ i → i < l.length → p ≤ eP l i)) (fun lo hi => (intOf hi - intOf lo).toNat)
  case atStart => exact ⟨0, l.length, Nat.zero_le _, Nat.le_refl _, rfl, rfl, by omega, by omega⟩
  case round =>
    obtain ⟨x, y, hxy, hy, rfl, rfl, h1, h2⟩ := hrel
    have A : Hid ((∀ i, i < x → eP l i < p) ∧ (∀ i, y ≤ i → i < l.length → p ≤ eP l i)) := ⟨h1, h2⟩
    clear h1 h2
    by_cases hlt : x < y
    · obtain ⟨b, off, rfl, hc⟩ := h (ne_nil_of (show x < l.length by omega))
      obtain ⟨c0, _⟩ := hc ((x + y) / 2) (by omega)
      go_wp2
      · go_round
        case rel =>
          refine ⟨(x + y) / 2 + 1, y, by omega, hy, by go_num, rfl, fun i hi => ?_, A.out.2⟩
          by_cases he : i = (x + y) / 2
          · subst he; assumption
          · have := hg.lt (show i < (x + y) / 2 by omega) (by omega)
            have : eP l ((x + y) / 2) < p := by assumption
            omega
        case measure => simp [intOf]; omega
      · go_round
        case rel =>
          refine ⟨x, (x + y) / 2, by omega, by omega, rfl, by go_num, A.out.1, fun i hi hil => ?_⟩
          by_cases he : i = (x + y) / 2
          · subst he; assumption
          · have := hg.lt (show (x + y) / 2 < i by omega) (by omega)
            have : p ≤ eP l ((x + y) / 2) := by assumption
            omega
        case measure => simp [intOf]; omega
    · have HF : Hid (Found l p x) := ⟨by omega, A.out.1, fun i hi hil => A.out.2 i (by omega) hil⟩
      by_cases hin : x < l.length
      · obtain ⟨b, off, rfl, hc⟩ := h (ne_nil_of hin)
        obtain ⟨c0, _⟩ := hc x hin
        go_wp2
        go_quiet (fail)
        go_wp2
        go_ret2
        refine ⟨x, ?_, HF.out, _, rfl⟩
        have : decide (x < l.length ∧ eP l x = p) = (eP l x == p) := by
          rw [Bool.eq_iff_iff]; simp [hin]
        rw [this]; rfl
      · have hd : decide (x < l.length) = false := decide_eq_false hin
        go_wp2
        go_quiet (fail)
        go_wp2
        go_ret2
        refine ⟨x, ?_, HF.out, _, rfl⟩
        have : decide (x < l.length ∧ eP l x = p) = false := decide_eq_false (by omega)
        rw [this]; rfl

/-- search, where the place is known. -/
theorem search_at (a : Option Addr) (n cap : Nat) (p : Int) (w : World) (l : List (Int × Int)) (k : Nat) (h : SlIs w a l) (hg : Good l) (hn : l.length = n) (hk : Found l p k) :
    Calls Try.prog 20 #[.slice a n cap, .int .i64 p] w fun e w' => e = .returned (.tuple #[.int .i64 k, .bool (decide (k < l.length ∧ eP l k = p))]) ∧ ∃ n, w' = w.drewN n := by
  subst hn
  refine (search_any a cap l p w h hg).mono fun e w' ⟨k', he, hf, hw⟩ => ?_
  have := hf.uniq hk
  subst this
  exact ⟨he, hw⟩

end Go.Proofs.Qxb6604789a
