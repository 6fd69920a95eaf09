/-
  WALK: Compare, where the first clock is longer than the second.
-/
import Derived.Test.Qxb6604789aWk1
import Derived.Deep.DeepCutAuto
namespace Go.Proofs.Qxb6604789a
open Go.RowKit

set_option maxRecDepth 100000 in
set_option maxHeartbeats 1000000 in
theorem cmp_gt (aS aL : Option Addr) (capS capL : Nat) (S L : List (Int × Int)) (w : World) (h1 : SlIs w aS S) (h2 : SlIs w aL L) (GS : Good S) (GL : Good L) (hle : S.length < L.length) (hcap : L.length ≤ capL) :
    Calls Try.prog 10 #[.slice aL L.length capL, .slice aS S.length capS] w fun e w' => e = .returned (.int .i64 (relI L S)) ∧ Below w.heap.size w w' := by
  have hlS := h1.1
  have hlL := h2.1
  have hsw : decide (S.length < L.length) = true := decide_eq_true hle
  go_enter Try.func10, Try.ntmps10
  go_wp2
  go_loopw [7, 8, 9, 28] (fun lt gt j i wr => ∃ (x y : Nat) (s g : Bool), x ≤ S.length ∧ y ≤ L.length ∧ i = .int .i64 x ∧ j = .int .i64 y ∧ lt = .bool s ∧ gt = .bool g ∧ Below w.heap.size w wr ∧ Hid (InvB S L x y s g)) (fun _ _ _ i _ => S.length - (intOf i).toNat)
  case atStart => exact ⟨0, 0, false, false, Nat.zero_le _, Nat.zero_le _, rfl, rfl, rfl, rfl, Below.refl _ _, InvB.start S L⟩
  case round =>
    obtain ⟨x, y, s, g, hx, hy, rfl, rfl, rfl, rfl, hb, I⟩ := hrel
    have g1 := h1.below hb
    have g2 := h2.below hb
    by_cases hxl : x < S.length
    · obtain ⟨b1, o1, rfl, hc1⟩ := g1.at hxl
      obtain ⟨c0, c1⟩ := hc1 x hxl
      have hbs := hb.size
      obtain ⟨b2, o2, rfl, hd1⟩ := g2.at (show 0 < L.length by omega)
      have hb2 := World.block_lt_of_cell? wr _ (hd1 0 (by omega)).1
      go_upto_region 9 with fail
      go_cut [45] (fun t wx => ∃ t0 : Bool, t = .bool t0 ∧ Hid (t0 = decide (y < L.length ∧ eP L y < eP S x)) ∧ ∃ m, wx = (wr.alloc (.cells #[.int .i64 (eP S x), .int .u64 (eN S x)] 41)).drewN m)
      case first =>
        by_cases hyl : y < L.length
        · obtain ⟨d0, d1⟩ := hd1 y hyl
          go_quiet (fail)
          go_wp2
          go_meet
          case rel => exact ⟨_, rfl, by simp [Hid, hyl], _, rfl⟩
        · have hyd : decide (y < L.length) = false := decide_eq_false hyl
          go_quiet (fail)
          go_wp2
          go_meet
          case rel => exact ⟨_, rfl, by simp [Hid, hyl], _, rfl⟩
      case rest =>
        obtain ⟨t0, rfl, T0, m, rfl⟩ := hcut
        go_upto_if 45 with fail
        go_cut [7, 9] (fun lt j w2 => ∃ (s' : Bool) (y' m' : Nat), lt = .bool s' ∧ j = .int .i64 y' ∧ w2 = (wr.alloc (.cells #[.int .i64 (eP S x), .int .u64 (eN S x)] 41)).drewN m' ∧ y' ≤ L.length ∧ Hid (InvB S L x y' s' g) ∧ Hid (∀ i, y' ≤ i → i < L.length → eP S x ≤ eP L i))
        case first =>
          cases t0
          case true =>
            obtain ⟨hyl, hp⟩ := of_decide_eq_true T0.out.symm
            go_wp2
            go_loopw [12, 13] (fun fr st w2 => ∃ (f t m : Nat), y + 1 ≤ f ∧ f ≤ L.length ∧ 1 ≤ t ∧ t ≤ f ∧ fr = .int .i64 f ∧ st = .int .i64 t ∧ w2 = (wr.alloc (.cells #[.int .i64 (eP S x), .int .u64 (eN S x)] 41)).drewN m ∧ Hid (∀ k, y ≤ k → k < f → eP L k < eP S x)) (fun fr _ _ => L.length - (intOf fr).toNat)
            case atStart => exact ⟨y + 1, 1, _, by omega, by omega, by omega, by omega, by go_num, rfl, rfl, pass_start hp⟩
            case round =>
              obtain ⟨f, t, m2, hf1, hf2, ht1, ht2, rfl, rfl, rfl, J⟩ := hrel
              by_cases hft : f + t ≤ L.length
              · obtain ⟨e0, _⟩ := hd1 (f + t - 1) (by omega)
                have hd3 : (f : Int) + t ≤ L.length := by omega
                by_cases hpp : eP L (f + t - 1) < eP S x
                · go_wp2
                  go_quiet (fail)
                  go_wp2
                  go_roundw
                  case rel => exact ⟨f + t, t * 2, _, by omega, by omega, by omega, by omega, by go_num, by go_num, rfl, pass_step GL hft hpp⟩
                  case measure => simp [intOf]; omega
                · go_wp2
                  go_quiet (fail)
                  go_wp2
                  obtain ⟨k, hk⟩ := exists_found ((GL.drop f).take t) (eP S x)
                  have HK : Hid (Found L (eP S x) (f + k)) := found_part GL hft (low_all GL (by omega) hf2 J.out) (Or.inr ⟨by omega, by omega⟩) hk
                  have g3 : SlIs (wr.alloc (.cells #[.int .i64 (eP S x), .int .u64 (eN S x)] 41)) (some ⟨b2, o2 + f * 2, none⟩) ((L.drop f).take t) :=
                    SlIs.alloc ⟨by simp; omega, fun _ => ⟨b2, _, rfl, hd1.part f t⟩⟩ _
                  have kb : k ≤ t := by have := hk.1; simp at this; omega
                  have HF : Hid (Found ((L.drop f).take t) (eP S x) k) := hk
                  clear hk
                  have hwr : IntKind.i64.wrap ((f : Int) + t) = (f : Int) + t := by rw [IntKind.wrap_i64]; omega
                  have hmin : ¬ (L.length : Int) < (f : Int) + t := by omega
                  have hcf : ¬ capL = f := by omega
                  have q1 : (0 : Int) ≤ (f : Int) := by omega
                  have q2 : (f : Int) ≤ (f : Int) + t := by omega
                  have q3 : (f : Int) + t ≤ (capL : Int) := by omega
                  go_quiet ((go_at_call 20; refine quiet_at (search_at _ _ _ _ _ ((L.drop f).take t) k ?_ ((GL.drop f).take t) ?_ HF.out); exact g3.of_heap rfl; go_must (simp; omega)))
                  go_wp2
                  go_meet
                  case rel => exact ⟨true, f + k, _, rfl, by go_num, rfl, HK.out.1, I.out.pass GS GL (by omega) HK.out.1 (fun i _ hi => HK.out.2.1 i hi), HK.out.2.2⟩
              · have hd3 : decide ((f : Int) + t ≤ L.length) = false := decide_eq_false (by omega)
                go_wp2
                go_quiet (fail)
                go_wp2
                by_cases hcf : f = capL
                · subst hcf
                  obtain ⟨k, hk⟩ := exists_found ((GL.drop f).take (L.length - f)) (eP S x)
                  have HK : Hid (Found L (eP S x) (f + k)) := found_part GL (by omega) (low_all GL (by omega) hf2 J.out) (Or.inl (by omega)) hk
                  have g3 : SlIs (wr.alloc (.cells #[.int .i64 (eP S x), .int .u64 (eN S x)] 41)) (some ⟨b2, o2, none⟩) ((L.drop f).take (L.length - f)) :=
                    SlIs.alloc ⟨by simp; omega, fun hne => absurd (by rw [List.drop_eq_nil_of_le (by omega)]; exact List.take_nil) hne⟩ _
                  have kb : k ≤ L.length - f := by have := hk.1; simp at this; omega
                  have HF : Hid (Found ((L.drop f).take (L.length - f)) (eP S x) k) := hk
                  clear hk
                  have hwr : IntKind.i64.wrap ((f : Int) + t) = (f : Int) + t := by rw [IntKind.wrap_i64]; omega
                  have hmin : (L.length : Int) < (f : Int) + t := by omega
                  have q1 : (0 : Int) ≤ (f : Int) := by omega
                  have q2 : (f : Int) ≤ (L.length : Int) := by omega
                  have q3 : (L.length : Int) ≤ (f : Int) := by omega
                  go_quiet ((go_at_call 20; refine quiet_at (search_at _ _ _ _ _ ((L.drop f).take (L.length - f)) k ?_ ((GL.drop f).take (L.length - f)) ?_ HF.out); exact g3.of_heap rfl; go_must (simp <;> omega)))
                  go_wp2
                  go_meet
                  case rel => exact ⟨true, f + k, _, rfl, by go_num, rfl, HK.out.1, I.out.pass GS GL (by omega) HK.out.1 (fun i _ hi => HK.out.2.1 i hi), HK.out.2.2⟩
                · obtain ⟨k, hk⟩ := exists_found ((GL.drop f).take (L.length - f)) (eP S x)
                  have HK : Hid (Found L (eP S x) (f + k)) := found_part GL (by omega) (low_all GL (by omega) hf2 J.out) (Or.inl (by omega)) hk
                  have g3 : SlIs (wr.alloc (.cells #[.int .i64 (eP S x), .int .u64 (eN S x)] 41)) (some ⟨b2, o2 + f * 2, none⟩) ((L.drop f).take (L.length - f)) :=
                    SlIs.alloc ⟨by simp; omega, fun hne => ⟨b2, _, rfl, hd1.part f _⟩⟩ _
                  have kb : k ≤ L.length - f := by have := hk.1; simp at this; omega
                  have HF : Hid (Found ((L.drop f).take (L.length - f)) (eP S x) k) := hk
                  clear hk
                  have hwr : IntKind.i64.wrap ((f : Int) + t) = (f : Int) + t := by rw [IntKind.wrap_i64]; omega
                  have hmin : (L.length : Int) < (f : Int) + t := by omega
                  have q1 : (0 : Int) ≤ (f : Int) := by omega
                  have q2 : (f : Int) ≤ (L.length : Int) := by omega
                  have q3 : (L.length : Int) ≤ (capL : Int) := by omega
                  have hcf2 : ¬ capL = f := by omega
                  go_quiet ((go_at_call 20; refine quiet_at (search_at _ _ _ _ _ ((L.drop f).take (L.length - f)) k ?_ ((GL.drop f).take (L.length - f)) ?_ HF.out); exact g3.of_heap rfl; go_must (simp <;> omega)))
                  go_wp2
                  go_meet
                  case rel => exact ⟨true, f + k, _, rfl, by go_num, rfl, HK.out.1, I.out.pass GS GL (by omega) HK.out.1 (fun i _ hi => HK.out.2.1 i hi), HK.out.2.2⟩
          case false =>
            have hsk := of_decide_eq_false T0.out.symm
            have J : Hid (∀ i, y ≤ i → i < L.length → eP S x ≤ eP L i) := by
              intro i h1 h2
              by_cases he : i = y
              · subst he; omega
              · have := GL.lt (show y < i by omega) h2
                omega
            clear hsk
            go_wp2
            go_meet
            case rel => exact ⟨s, y, m, rfl, rfl, rfl, hy, I, J⟩
        case rest =>
          obtain ⟨s', y', m', rfl, rfl, rfl, hy', I', J'⟩ := hcut
          by_cases hyl : y' < L.length
          · obtain ⟨d0, d1⟩ := hd1 y' hyl
            have hye : ((y' : Int) == (L.length : Int)) = false := beq_eq_false_iff_ne.2 (by omega)
            have hge := J'.out y' (Nat.le_refl _) hyl
            by_cases hgt : eP S x < eP L y'
            · have I1 : Hid (InvB S L (x + 1) y' s' true) := I'.out.left GS hxl (fun z hz => by have := (mem_drop_le GL hz).1; omega)
              cases s'
              case false =>
                go_upto_region 18 with fail
                go_quiet (fail)
                go_wp2
                go_roundw
                case rel => exact ⟨x + 1, y', false, true, by omega, by omega, by go_num, by go_num, rfl, rfl, (below_drewN (hb.alloc hbs _) _), I1⟩
                case measure => simp [intOf]; omega
              case true =>
                go_upto_region 18 with fail
                go_quiet (fail)
                go_wp2
                go_ret
                exact ⟨by rw [(I1.out.conc).2]; rfl, by first | exact (below_drewN (hb.alloc hbs _) _) | exact (below_drewN (below_drewN (hb.alloc hbs _) _) _) | exact (below_drewN (below_drewN (below_drewN (hb.alloc hbs _) _) _) _) | exact (below_drewN (below_drewN (below_drewN (below_drewN (hb.alloc hbs _) _) _) _) _)⟩
            · have IB : Hid (InvB S L (x + 1) (y' + 1) (s' || decide (eN S x < eN L y')) (g || decide (eN L y' < eN S x))) := I'.out.both GS GL hxl hyl (by omega)
              by_cases hn1 : eN S x < eN L y'
              · have I1 : Hid (InvB S L (x + 1) (y' + 1) true g) := by have J := IB.out; rw [decide_eq_true hn1, decide_eq_false (p := eN L y' < eN S x) (by omega), Bool.or_true, Bool.or_false] at J; exact J
                cases g
                case false =>
                  go_upto_region 18 with fail
                  go_quiet (fail)
                  go_wp2
                  go_quiet (fail)
                  go_wp2
                  go_roundw
                  case rel => exact ⟨x + 1, y' + 1, true, false, by omega, by omega, by go_num, by go_num, rfl, rfl, (below_drewN (hb.alloc hbs _) _), I1⟩
                  case measure => simp [intOf]; omega
                case true =>
                  go_upto_region 18 with fail
                  go_quiet (fail)
                  go_wp2
                  go_quiet (fail)
                  go_wp2
                  go_ret
                  exact ⟨by rw [(I1.out.conc).2]; rfl, by first | exact (below_drewN (hb.alloc hbs _) _) | exact (below_drewN (below_drewN (hb.alloc hbs _) _) _) | exact (below_drewN (below_drewN (below_drewN (hb.alloc hbs _) _) _) _) | exact (below_drewN (below_drewN (below_drewN (below_drewN (hb.alloc hbs _) _) _) _) _)⟩
              by_cases hn2 : eN L y' < eN S x
              · have I1 : Hid (InvB S L (x + 1) (y' + 1) s' true) := by have J := IB.out; rw [decide_eq_true hn2, decide_eq_false hn1, Bool.or_true, Bool.or_false] at J; exact J
                cases s'
                case false =>
                  go_upto_region 18 with fail
                  go_quiet (fail)
                  go_wp2
                  go_quiet (fail)
                  go_wp2
                  go_quiet (fail)
                  go_wp2
                  go_roundw
                  case rel => exact ⟨x + 1, y' + 1, false, true, by omega, by omega, by go_num, by go_num, rfl, rfl, (below_drewN (hb.alloc hbs _) _), I1⟩
                  case measure => simp [intOf]; omega
                case true =>
                  go_upto_region 18 with fail
                  go_quiet (fail)
                  go_wp2
                  go_quiet (fail)
                  go_wp2
                  go_quiet (fail)
                  go_wp2
                  go_ret
                  exact ⟨by rw [(I1.out.conc).2]; rfl, by first | exact (below_drewN (hb.alloc hbs _) _) | exact (below_drewN (below_drewN (hb.alloc hbs _) _) _) | exact (below_drewN (below_drewN (below_drewN (hb.alloc hbs _) _) _) _) | exact (below_drewN (below_drewN (below_drewN (below_drewN (hb.alloc hbs _) _) _) _) _)⟩
              · have I1 : Hid (InvB S L (x + 1) (y' + 1) s' g) := by have J := IB.out; rw [decide_eq_false hn2, decide_eq_false hn1, Bool.or_false, Bool.or_false] at J; exact J
                cases s'
                case false =>
                  cases g
                  case false =>
                    go_upto_region 18 with fail
                    go_quiet (fail)
                    go_wp2
                    go_quiet (fail)
                    go_wp2
                    go_quiet (fail)
                    go_wp2
                    go_roundw
                    case rel => exact ⟨x + 1, y' + 1, false, false, by omega, by omega, by go_num, by go_num, rfl, rfl, (below_drewN (hb.alloc hbs _) _), I1⟩
                    case measure => simp [intOf]; omega
                  case true =>
                    go_upto_region 18 with fail
                    go_quiet (fail)
                    go_wp2
                    go_quiet (fail)
                    go_wp2
                    go_quiet (fail)
                    go_wp2
                    go_roundw
                    case rel => exact ⟨x + 1, y' + 1, false, true, by omega, by omega, by go_num, by go_num, rfl, rfl, (below_drewN (hb.alloc hbs _) _), I1⟩
                    case measure => simp [intOf]; omega
                case true =>
                  cases g
                  case false =>
                    go_upto_region 18 with fail
                    go_quiet (fail)
                    go_wp2
                    go_quiet (fail)
                    go_wp2
                    go_quiet (fail)
                    go_wp2
                    go_roundw
                    case rel => exact ⟨x + 1, y' + 1, true, false, by omega, by omega, by go_num, by go_num, rfl, rfl, (below_drewN (hb.alloc hbs _) _), I1⟩
                    case measure => simp [intOf]; omega
                  case true =>
                    go_upto_region 18 with fail
                    go_quiet (fail)
                    go_wp2
                    go_quiet (fail)
                    go_wp2
                    go_quiet (fail)
                    go_wp2
                    go_ret
                    exact ⟨by rw [(I1.out.conc).2]; rfl, by first | exact (below_drewN (hb.alloc hbs _) _) | exact (below_drewN (below_drewN (hb.alloc hbs _) _) _) | exact (below_drewN (below_drewN (below_drewN (hb.alloc hbs _) _) _) _) | exact (below_drewN (below_drewN (below_drewN (below_drewN (hb.alloc hbs _) _) _) _) _)⟩
          · have hye : ((y' : Int) == (L.length : Int)) = true := beq_iff_eq.2 (by omega)
            have I1 : Hid (InvB S L (x + 1) y' s' true) := I'.out.left GS hxl (fun z hz => by have := (mem_drop_le GL hz).2; omega)
            cases s'
            case false =>
              go_upto_region 18 with fail
              go_quiet (fail)
              go_wp2
              go_roundw
              case rel => exact ⟨x + 1, y', false, true, by omega, by omega, by go_num, by go_num, rfl, rfl, (below_drewN (hb.alloc hbs _) _), I1⟩
              case measure => simp [intOf]; omega
            case true =>
              go_upto_region 18 with fail
              go_quiet (fail)
              go_wp2
              go_ret
              exact ⟨by rw [(I1.out.conc).2]; rfl, by first | exact (below_drewN (hb.alloc hbs _) _) | exact (below_drewN (below_drewN (hb.alloc hbs _) _) _) | exact (below_drewN (below_drewN (below_drewN (hb.alloc hbs _) _) _) _) | exact (below_drewN (below_drewN (below_drewN (below_drewN (hb.alloc hbs _) _) _) _) _)⟩
    · have F : Hid ((s || decide (y < L.length)) = ltB S L ∧ g = ltB L S) := I.out.end GL (by omega)
      by_cases hyl : y < L.length
      · have hyd : decide (y < L.length) = true := decide_eq_true hyl
        cases s <;> cases g
        all_goals
          go_wp2
          go_ret
          refine ⟨?_, hb⟩
          obtain ⟨f1, f2⟩ := F.out
          rw [hyd] at f1
          rw [relI, ← f2, ← f1]
          rfl
      · have hyd : decide (y < L.length) = false := decide_eq_false hyl
        cases s <;> cases g
        all_goals
          go_wp2
          go_ret
          refine ⟨?_, hb⟩
          obtain ⟨f1, f2⟩ := F.out
          rw [hyd] at f1
          rw [relI, ← f2, ← f1]
          rfl
end Go.Proofs.Qxb6604789a
