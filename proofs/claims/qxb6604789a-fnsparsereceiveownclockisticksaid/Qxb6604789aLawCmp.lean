/-
  THE LAW FnSparseCompareMatchesEntrywiseModel: its walk.
-/
import Derived.Test.Qxb6604789aWk2
import Derived.Test.Qxb6604789aWk3
import Derived.Test.Qxb6604789aWk4
import Derived.Test.Qxb6604789aWk5
namespace Go.Proofs.Qxb6604789a
open Go.RowKit

/-- What the walk is told of a slice of entries that came in: if it is not too long, it holds a list of entries whose numbers fit their kinds. -/
def Came (w : World) (a : Option Addr) (n cap : Nat) : Prop :=
  n ≤ cap ∧ cap ≤ maxLen ∧ ∃ l : List (Int × Int), l.length = n ∧ (∀ e ∈ l, InR e) ∧ (n ≠ 0 → ∃ b off, a = some ⟨b, off, none⟩ ∧ Lies w b off l)

theorem Came.slIs {w : World} {a : Option Addr} {n cap : Nat} (h : Came w a n cap) (hn : n ≤ 32768) : ∃ l : List (Int × Int), l.length = n ∧ (∀ e ∈ l, InR e) ∧ SlIs w a l := by
  obtain ⟨_, _, l, hl, hr, hs⟩ := h
  exact ⟨l, hl, hr, by omega, fun hne => hs (fun h0 => hne (List.eq_nil_of_length_eq_zero (by omega)))⟩

theorem bytes7_any (a b : Option Addr) (n m cn cm : Nat) (w : World) (hn : n ≤ maxLen) (hm : m ≤ maxLen) :
    Calls Try.prog 7 #[.slice a n cn, .slice b m cm] w fun e w' => (∃ t, e = .returned (.bool t)) ∧ w' = w := by
  unfold maxLen at hn hm
  go_enter Try.func7, Try.ntmps7
  go_wp2
  all_goals
    go_ret
    exact ⟨⟨_, rfl⟩, rfl⟩

theorem cmp_any (a1 a2 : Option Addr) (cap1 cap2 : Nat) (c d : List (Int × Int)) (w : World) (h1 : SlIs w a1 c) (h2 : SlIs w a2 d) (hc : Good c) (hd : Good d) (hc1 : c.length ≤ cap1) (hc2 : d.length ≤ cap2) :
    Calls Try.prog 10 #[.slice a1 c.length cap1, .slice a2 d.length cap2] w fun e w' => e = .returned (.int .i64 (relI c d)) ∧ Below w.heap.size w w' := by
  by_cases h : c.length ≤ d.length
  · exact cmp_le a1 a2 cap1 cap2 c d w h1 h2 hc hd h hc2
  · exact cmp_gt a2 a1 cap2 cap1 d c w h2 h1 hd hc (by omega) hc1

/-- A fresh clock as a slice. -/
theorem Fresh.slice {w w' : World} {v : Value} {l : List (Int × Int)} (h : Fresh w w' v l) (hl : l.length ≤ 1000000) : ∃ a cap, v = .slice a l.length cap ∧ l.length ≤ cap ∧ SlIs w' a l := by
  rcases h with ⟨rfl, rfl⟩ | ⟨g, rfl, _, hr⟩
  · exact ⟨none, 0, rfl, Nat.le_refl _, by simp, fun h => absurd rfl h⟩
  · exact ⟨_, _, rfl, Nat.le_refl _, hr.slIs hl⟩

set_option maxHeartbeats 1000000 in
set_option maxRecDepth 100000 in
theorem law_cmp (a1 a2 : Option Addr) (n1 cap1 n2 cap2 : Nat) (w : World) (h1 : Came w a1 n1 cap1) (h2 : Came w a2 n2 cap2) :
    Calls Try.prog 3 #[.slice a1 n1 cap1, .slice a2 n2 cap2] w fun e w' => e = .returned (.bool true) ∧ Below w.heap.size w w' := by
  have m1 : n1 ≤ maxLen := Nat.le_trans h1.1 h1.2.1
  have m2 : n2 ≤ maxLen := Nat.le_trans h2.1 h2.2.1
  have C1 : Hid (Came w a1 n1 cap1) := h1
  have C2 : Hid (Came w a2 n2 cap2) := h2
  clear h1 h2
  go_enter Try.func3, Try.ntmps3
  go_wp2_with fail
  refine (bytes7_any a1 a2 n1 n2 cap1 cap2 _ m1 m2).mono ?_
  rintro e w' ⟨⟨t, rfl⟩, rfl⟩
  cases t
  case false =>
    go_wp2_with fail
    go_ret
    exact ⟨rfl, Below.refl _ _⟩
  case true =>
    by_cases hb1 : 32768 < n1
    · have : (32768 : Int) < n1 := by omega
      go_wp2_with fail
      go_ret
      exact ⟨rfl, Below.refl _ _⟩
    by_cases hb2 : 32768 < n2
    · have : ¬ (32768 : Int) < n1 := by omega
      have : (32768 : Int) < n2 := by omega
      go_wp2_with fail
      go_ret
      exact ⟨rfl, Below.refl _ _⟩
    obtain ⟨c, rfl, rc, sc⟩ := C1.out.slIs (by omega)
    obtain ⟨d, rfl, rd, sd⟩ := C2.out.slIs (by omega)
    have k1 := C1.out.1
    have k2 := C2.out.1
    clear C1 C2
    have : ¬ (32768 : Int) < c.length := by omega
    have : ¬ (32768 : Int) < d.length := by omega
    go_wp2_with fail
    refine (wf_any a1 cap1 c _ sc).mono ?_
    rintro e w1 ⟨rfl, i1, rfl⟩
    cases hw1 : wfB c
    case false =>
      go_wp2_with fail
      go_ret
      exact ⟨rfl, below_drewN (Below.refl _ _) _⟩
    have GC := good_of_wfB rc hw1
    clear hw1
    go_wp2_with fail
    refine (wf_any a2 cap2 d _ (by exact sd.of_heap rfl)).mono ?_
    rintro e w2 ⟨rfl, i2, rfl⟩
    cases hw2 : wfB d
    case false =>
      go_wp2_with fail
      go_ret
      exact ⟨rfl, below_drewN (Below.refl _ _) _⟩
    have GD := good_of_wfB rd hw2
    clear hw2
    go_wp2_with fail
    refine (clock_any a1 cap1 c _ (by exact sc.of_heap rfl)).mono ?_
    rintro e w3 ⟨⟨v1, rfl, f1⟩, b0⟩
    have b1 : Below w'.heap.size w' w3 := ⟨b0.os, b0.tape, b0.output, b0.size, b0.block⟩
    obtain ⟨p1, q1, rfl, hq1, s1⟩ := f1.slice sc.1
    go_wp2_with fail
    refine (clock_any a2 cap2 d _ (by exact sd.below b1)).mono ?_
    rintro e w4 ⟨⟨v2, rfl, f2⟩, b2⟩
    obtain ⟨p2, q2, rfl, hq2, s2⟩ := f2.slice sd.1
    go_wp2_with fail
    refine (cmp_any p1 p2 q1 q2 c d _ (by exact s1.below b2) (by exact s2) GC GD hq1 hq2).mono ?_
    rintro e w5 ⟨rfl, b3⟩
    have B3 : Below w'.heap.size w' w5 := (b1.trans (b2.mono b1.size)).trans (b3.mono (Nat.le_trans b1.size b2.size))
    go_wp2_with fail
    refine (rel_any a1 a2 cap1 cap2 c d _ (by exact sc.below B3) (by exact sd.below B3) GC GD).mono ?_
    rintro e w6 ⟨rfl, i3, rfl⟩
    go_wp2_with fail
    go_ret
    exact ⟨by simp, below_drewN B3 _⟩
end Go.Proofs.Qxb6604789a
