/-
  WALK: relModel.
-/
import Derived.Test.Qxb6604789aMem
namespace Go.Proofs.Qxb6604789a
open Go.RowKit

set_option maxRecDepth 100000 in
set_option maxHeartbeats 1000000 in
theorem rel_any (a1 a2 : Option Addr) (cap1 cap2 : Nat) (c d : List (Int × Int)) (w : World) (h1 : SlIs w a1 c) (h2 : SlIs w a2 d) (hc : Good c) (hd : Good d) :
    Calls Try.prog 11 #[.slice a1 c.length cap1, .slice a2 d.length cap2] w fun e w' => e = .returned (.int .i64 (relI c d)) ∧ ∃ n, w' = w.drewN n := by
  obtain ⟨hlc, h1⟩ := h1
  obtain ⟨hld, h2⟩ := h2
  go_enter Try.func11, Try.ntmps11
  go_wp2
  go_loopw [5, 6, 7, 8] (fun lt gt i j wr => ∃ (x y m : Nat) (s g : Bool), x ≤ c.length ∧ y ≤ d.length ∧ i = .int .i64 x ∧ j = .int .i64 y ∧ lt = .bool s ∧ gt = .bool g ∧ wr = w.drewN m ∧ Hid (InvB c d x y s g)) (fun _ _ i j _ => (c.length - (intOf i).toNat) + (d.length - (intOf j).toNat))
  case atStart => exact ⟨0, 0, 0, false, false, Nat.zero_le _, Nat.zero_le _, rfl, rfl, rfl, rfl, rfl, InvB.start c d⟩
  case round =>
    obtain ⟨x, y, m, s, g, hx, hy, rfl, rfl, rfl, rfl, rfl, I⟩ := hrel
    by_cases hxl : x < c.length
    · obtain ⟨b1, o1, rfl, hc1⟩ := h1 (ne_nil_of hxl)
      obtain ⟨c0, c1⟩ := hc1 x hxl
      have hxd : decide (x < c.length) = true := decide_eq_true hxl
      have hxe : ((x : Int) == (c.length : Int)) = false := beq_eq_false_iff_ne.2 (by omega)
      clear h1
      by_cases hyl : y < d.length
      · obtain ⟨b2, o2, rfl, hd1⟩ := h2 (ne_nil_of hyl)
        obtain ⟨d0, d1⟩ := hd1 y hyl
        have hyd : decide (y < d.length) = true := decide_eq_true hyl
        have hye : ((y : Int) == (d.length : Int)) = false := beq_eq_false_iff_ne.2 (by omega)
        clear h2
        by_cases hp : eP c x < eP d y
        · have I1 : Hid (InvB c d (x + 1) y s true) := I.out.left hc hxl (fun z hz => by have := (mem_drop_le hd hz).1; omega)
          have hn : (0 : Int) < eN c x := by rw [eN_get hxl]; exact hc.2 _ (List.getElem_mem hxl)
          have hn2 : ¬ eN c x < 0 := by omega
          go_wp2
          go_quiet (fail)
          go_wp2
          go_roundw
          case rel => exact ⟨x + 1, y, _, s, true, by omega, hy, by go_num, rfl, rfl, rfl, rfl, I1⟩
          case measure => simp [intOf]; omega
        · by_cases hq : eP d y < eP c x
          · have I1 : Hid (InvB c d x (y + 1) true g) := I.out.right hd hyl (fun z hz => by have := (mem_drop_le hc hz).1; omega)
            have hn : (0 : Int) < eN d y := by rw [eN_get hyl]; exact hd.2 _ (List.getElem_mem hyl)
            have hn2 : ¬ eN d y < 0 := by omega
            go_wp2
            go_quiet (fail)
            go_wp2
            go_quiet (fail)
            go_wp2
            go_roundw
            case rel => exact ⟨x, y + 1, _, true, g, hx, by omega, rfl, by go_num, rfl, rfl, rfl, I1⟩
            case measure => simp [intOf]; omega
          · have I1 : Hid (InvB c d (x + 1) (y + 1) (s || decide (eN c x < eN d y)) (g || decide (eN d y < eN c x))) := I.out.both hc hd hxl hyl (by omega)
            go_wp2
            go_quiet (fail)
            go_wp2
            go_quiet (fail)
            go_wp2
            · go_roundw
              case rel => exact ⟨x + 1, y + 1, _, true, g, by omega, by omega, by go_num, by go_num, rfl, rfl, rfl, by have J := I1.out; rw [decide_eq_true (p := eN c x < eN d y) (by omega), decide_eq_false (p := eN d y < eN c x) (by omega), Bool.or_true, Bool.or_false] at J; exact J⟩
              case measure => simp [intOf]; omega
            · go_roundw
              case rel => exact ⟨x + 1, y + 1, _, s, true, by omega, by omega, by go_num, by go_num, rfl, rfl, rfl, by have J := I1.out; rw [decide_eq_false (p := eN c x < eN d y) (by omega), decide_eq_true (p := eN d y < eN c x) (by omega), Bool.or_true, Bool.or_false] at J; exact J⟩
              case measure => simp [intOf]; omega
            · go_roundw
              case rel => exact ⟨x + 1, y + 1, _, s, g, by omega, by omega, by go_num, by go_num, rfl, rfl, rfl, by have J := I1.out; rw [decide_eq_false (p := eN c x < eN d y) (by omega), decide_eq_false (p := eN d y < eN c x) (by omega), Bool.or_false, Bool.or_false] at J; exact J⟩
              case measure => simp [intOf]; omega
      · have hyd : decide (y < d.length) = false := decide_eq_false hyl
        have hye : ((y : Int) == (d.length : Int)) = true := beq_iff_eq.2 (by omega)
        have I1 : Hid (InvB c d (x + 1) y s true) := I.out.left hc hxl (fun z hz => by have := (mem_drop_le hd hz).2; omega)
        have hn : (0 : Int) < eN c x := by rw [eN_get hxl]; exact hc.2 _ (List.getElem_mem hxl)
        have hn2 : ¬ eN c x < 0 := by omega
        go_wp2
        go_quiet (fail)
        go_wp2
        go_roundw
        case rel => exact ⟨x + 1, y, _, s, true, by omega, hy, by go_num, rfl, rfl, rfl, rfl, I1⟩
        case measure => simp [intOf]; omega
    · have hxd : decide (x < c.length) = false := decide_eq_false hxl
      have hxe : ((x : Int) == (c.length : Int)) = true := beq_iff_eq.2 (by omega)
      by_cases hyl : y < d.length
      · obtain ⟨b2, o2, rfl, hd1⟩ := h2 (ne_nil_of hyl)
        obtain ⟨d0, d1⟩ := hd1 y hyl
        have hyd : decide (y < d.length) = true := decide_eq_true hyl
        have hye : ((y : Int) == (d.length : Int)) = false := beq_eq_false_iff_ne.2 (by omega)
        clear h2
        have I1 : Hid (InvB c d x (y + 1) true g) := I.out.right hd hyl (fun z hz => by have := (mem_drop_le hc hz).2; omega)
        have hn : (0 : Int) < eN d y := by rw [eN_get hyl]; exact hd.2 _ (List.getElem_mem hyl)
        have hn2 : ¬ eN d y < 0 := by omega
        go_wp2
        go_quiet (fail)
        go_wp2
        go_quiet (fail)
        go_wp2
        go_roundw
        case rel => exact ⟨x, y + 1, _, true, g, hx, by omega, rfl, by go_num, rfl, rfl, rfl, I1⟩
        case measure => simp [intOf]; omega
      · have F := I.out.done (by omega) (by omega)
        have F' : Hid (s = ltB c d ∧ g = ltB d c) := F
        clear F
        have hyd : decide (y < d.length) = false := decide_eq_false hyl
        cases s <;> cases g
        all_goals
          go_wp2
          go_ret
          refine ⟨?_, _, rfl⟩
          obtain ⟨f1, f2⟩ := F'.out
          rw [relI, ← f1, ← f2]
          rfl
end Go.Proofs.Qxb6604789a
