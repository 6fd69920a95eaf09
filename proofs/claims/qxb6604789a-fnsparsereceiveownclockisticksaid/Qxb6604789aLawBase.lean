/-
  WHAT THE LAWS ON Receive SHARE.
-/
import Derived.Test.Qxb6604789aLawCmp
import Derived.Test.Qxb6604789aWk8
import Derived.Test.Qxb6604789aWk9
import Derived.Test.Qxb6604789aWk10
import Derived.Deep.RegionHeld3
namespace Go.Proofs.Qxb6604789a
open Go.RowKit

theorem Fresh.holds {w w' : World} {v : Value} {l : List (Int × Int)} (h : Fresh w w' v l) : ∃ av, v = .slice av l.length l.length ∧ Holds w' av l ∧ ∀ g, av = some ⟨g, 0, none⟩ → w.heap.size ≤ g := by
  rcases h with ⟨rfl, rfl⟩ | ⟨g, rfl, hg, hr⟩
  · exact ⟨none, rfl, Or.inl ⟨rfl, rfl⟩, fun g h => by cases h⟩
  · exact ⟨_, rfl, Or.inr ⟨g, rfl, hr⟩, fun g' h => by have : g = g' := by simpa using h
                                                       omega⟩

theorem Holds.slIs {w : World} {av : Option Addr} {l : List (Int × Int)} (h : Holds w av l) (hl : l.length ≤ 1000000) : SlIs w av l := by
  rcases h with ⟨rfl, rfl⟩ | ⟨g, rfl, hr⟩
  · exact ⟨by simp, fun h => absurd rfl h⟩
  · exact hr.slIs hl

theorem rspec_self {c F : List (Int × Int)} {p : Int} (hc : Good c) (h : RSpec c c p F) : RSpec c [] p F := by
  refine ⟨h.1, fun e => ?_⟩
  rw [h.2 e]
  have hv : val c c p e.1 = val c [] p e.1 := by
    have := cnt_nonneg hc.2 e.1
    unfold val
    rw [show cnt [] e.1 = 0 from rfl, show max (cnt c e.1) (cnt c e.1) = max (cnt c e.1) 0 by omega]
  rw [hv]
  simp [keyIn]

theorem bytes19_any (a : Option Addr) (n cn : Nat) (p : Int) (w : World) (hn : n ≤ maxLen) :
    Calls Try.prog 19 #[.slice a n cn, .int .i64 p] w fun e w' => (∃ t, e = .returned (.bool t)) ∧ w' = w := by
  unfold maxLen at hn
  go_enter Try.func19, Try.ntmps19
  go_wp2
  all_goals
    go_ret
    exact ⟨⟨_, rfl⟩, rfl⟩

theorem good_nil : Good [] := ⟨List.Pairwise.nil, by simp⟩

theorem SlIs.nil (w : World) : SlIs w none [] := ⟨by simp, fun h => absurd rfl h⟩

theorem bytes12_any (a b : Option Addr) (n cn m cm : Nat) (p : Int) (w : World) (hn : n ≤ maxLen) (hm : m ≤ maxLen) :
    Calls Try.prog 12 #[.slice a n cn, .int .i64 p, .slice b m cm] w fun e w' => (∃ t, e = .returned (.bool t)) ∧ w' = w := by
  unfold maxLen at hn hm
  go_enter Try.func12, Try.ntmps12
  go_wp2
  all_goals
    go_ret
    exact ⟨⟨_, rfl⟩, rfl⟩

theorem bytes16_any (a b : Option Addr) (n cn m cm : Nat) (p : Int) (w : World) (hn : n ≤ maxLen) (hm : m ≤ maxLen) :
    Calls Try.prog 16 #[.slice a n cn, .int .i64 p, .slice b m cm] w fun e w' => (∃ t, e = .returned (.bool t)) ∧ w' = w := by
  unfold maxLen at hn hm
  go_enter Try.func16, Try.ntmps16
  go_wp2
  all_goals
    go_ret
    exact ⟨⟨_, rfl⟩, rfl⟩

theorem below_undrew {B : Nat} {w w' : World} (h : Below B w.drew w') : Below B w w' := ⟨h.os, h.tape, h.output, h.size, h.block⟩
theorem below_undrewN {B n : Nat} {w w' : World} (h : Below B (w.drewN n) w') : Below B w w' := ⟨h.os, h.tape, h.output, h.size, h.block⟩

/-- receiveModel, where the result is known by its entries. -/
theorem model_at (a1 a2 : Option Addr) (cap1 cap2 : Nat) (p : Int) (c m F : List (Int × Int)) (w : World) (h1 : SlIs w a1 c) (h2 : SlIs w a2 m) (hc : Good c) (hm : Good m) (hcl : c.length ≤ 32768) (hml : m.length ≤ 32768) (hF : RSpec c m p F) :
    Calls Try.prog 15 #[.slice a1 c.length cap1, .slice a2 m.length cap2, .int .i64 p] w fun e w' => ∃ a cap, e = .returned (.slice a F.length cap) ∧ SlIs w' a F ∧ Below w.heap.size w w' := by
  refine (model_any a1 a2 cap1 cap2 p c m w h1 h2 hc hm hcl hml).mono ?_
  rintro e w' ⟨a, cap, G, rfl, hs, hg, hb⟩
  have := RSpec.uniq hg hF
  subst this
  exact ⟨a, cap, rfl, hs, hb⟩

/-! ### The variable's cell, behind calls that make memory -/
theorem keep1 {w0 w1 w2 : World} {x : Nat} {v : Value} (hx : x < w0.heap.size) (b1 : Below w1.heap.size w1 w2) (h : w0.cell? ⟨x, 0, none⟩ = some v) (e : w1.heap = w0.heap := by rfl) : w2.cell? ⟨x, 0, none⟩ = some v :=
  (b1.cell (p := ⟨x, 0, none⟩) (by rw [e]; exact hx)).trans ((World.cell?_of_block (w := w0) (by rw [e])).trans h)
theorem keep2 {w0 w1 w2 w3 : World} {x : Nat} {v : Value} (hx : x < w0.heap.size) (b1 : Below w1.heap.size w1 w2) (b2 : Below w2.heap.size w2 w3) (h : w0.cell? ⟨x, 0, none⟩ = some v) (e : w1.heap = w0.heap := by rfl) : w3.cell? ⟨x, 0, none⟩ = some v :=
  (b2.cell (p := ⟨x, 0, none⟩) (Nat.lt_of_lt_of_le (by rw [e]; exact hx) b1.size)).trans (keep1 hx b1 h e)
theorem keep3 {w0 w1 w2 w3 w4 : World} {x : Nat} {v : Value} (hx : x < w0.heap.size) (b1 : Below w1.heap.size w1 w2) (b2 : Below w2.heap.size w2 w3) (b3 : Below w3.heap.size w3 w4) (h : w0.cell? ⟨x, 0, none⟩ = some v) (e : w1.heap = w0.heap := by rfl) : w4.cell? ⟨x, 0, none⟩ = some v :=
  (b3.cell (p := ⟨x, 0, none⟩) (Nat.lt_of_lt_of_le (Nat.lt_of_lt_of_le (by rw [e]; exact hx) b1.size) b2.size)).trans (keep2 hx b1 b2 h e)
theorem keep4 {w0 w1 w2 w3 w4 w5 : World} {x : Nat} {v : Value} (hx : x < w0.heap.size) (b1 : Below w1.heap.size w1 w2) (b2 : Below w2.heap.size w2 w3) (b3 : Below w3.heap.size w3 w4) (b4 : Below w4.heap.size w4 w5) (h : w0.cell? ⟨x, 0, none⟩ = some v) (e : w1.heap = w0.heap := by rfl) : w5.cell? ⟨x, 0, none⟩ = some v :=
  (b4.cell (p := ⟨x, 0, none⟩) (Nat.lt_of_lt_of_le (Nat.lt_of_lt_of_le (Nat.lt_of_lt_of_le (by rw [e]; exact hx) b1.size) b2.size) b3.size)).trans (keep3 hx b1 b2 b3 h e)
theorem keep1d {w0 w1 w2 : World} {x k : Nat} {v : Value} (hx : x < w0.heap.size) (b1 : Below w1.heap.size w1 w2) (h : w0.cell? ⟨x, 0, none⟩ = some v) (e : w1.heap = w0.heap := by rfl) : (w2.drewN k).cell? ⟨x, 0, none⟩ = some v :=
  (World.cell?_of_block (w := w2) rfl).trans (keep1 hx b1 h e)

end Go.Proofs.Qxb6604789a
