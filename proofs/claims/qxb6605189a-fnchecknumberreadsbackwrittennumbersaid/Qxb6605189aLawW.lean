/-
  THE LAW FnCheckNumberReadsBackWrittenNumber: its walk.
-/
import Derived.Test.Qxb6605189aLawN
import Derived.Test.Qxb6605189aWkU
namespace Go.Proofs.Qxb6605189a
open Go.RowKit

theorem bytes14_any (a b : Option Addr) (n cn m cm : Nat) (x y z : Int) (p q r s : Bool) (w : World) (hn : n ≤ maxLen) (hm : m ≤ maxLen) :
    Calls Try.prog 14 #[.slice a n cn, .int .i64 x, .bool p, .int .u32 y, .bool q, .bool r, .int .i16 z, .bool s, .slice b m cm] w fun e w' => (∃ t, e = .returned (.bool t)) ∧ w' = w := by
  unfold maxLen at hn hm
  go_enter Try.func14, Try.ntmps14
  go_wp2
  all_goals
    go_ret
    exact ⟨⟨_, rfl⟩, rfl⟩

/-- The text so far: the prefix and a number's beginning, over which the automaton has come to a state that is ok. -/
def St (w wx : World) (tv : Value) (P : List Int) (m : Nat) (ok : Nat → Prop) : Prop :=
  ∃ num s, ok s ∧ goes 0 num s ∧ num.length ≤ m ∧ BOwn wx w.heap.size tv (P ++ num) ∧ Below w.heap.size w wx

theorem St.size {w wx : World} {tv : Value} {P : List Int} {m : Nat} {ok : Nat → Prop} (h : St w wx tv P m ok) : w.heap.size ≤ wx.heap.size := by
  obtain ⟨_, _, _, _, _, _, hb⟩ := h
  exact hb.size

theorem St.mono {w wx : World} {tv : Value} {P : List Int} {m m' : Nat} {ok ok' : Nat → Prop} (h : St w wx tv P m ok) (hm : m ≤ m') (ho : ∀ s, ok s → ok' s) : St w wx tv P m' ok' := by
  obtain ⟨num, s, a, b, c, d, e⟩ := h
  exact ⟨num, s, ho s a, b, by omega, d, e⟩

/-- One more piece. -/
theorem St.more {w wx wy : World} {v : Value} {P num xs : List Int} {m : Nat} {ok : Nat → Prop} {s t : Nat} (hg : goes 0 num s) (hx : goes s xs t) (hok : ok t) (hl : num.length + xs.length ≤ m) (ho : BOwn wy w.heap.size v (P ++ num ++ xs)) (hb : Below w.heap.size w wx) (hb2 : Below w.heap.size wx wy) : St w wy v P m ok :=
  ⟨num ++ xs, t, hok, goes_append hg hx, by simp; omega, by rw [← List.append_assoc]; exact ho, hb.trans hb2⟩

set_option maxHeartbeats 4000000 in
set_option maxRecDepth 100000 in
theorem law_wr (a0 a8 : Option Addr) (n0 cap0 n8 cap8 : Nat) (n fr xp : Int) (hf he up pl : Bool) (w : World) (h0 : BCame w a0 n0 cap0) (h8 : BCame w a8 n8 cap8)
    (hn1 : -9223372036854775808 ≤ n) (hn2 : n ≤ 9223372036854775807) (hf1 : 0 ≤ fr) (hf2 : fr ≤ 4294967295) (hx1 : -32768 ≤ xp) (hx2 : xp ≤ 32767) :
    Calls Try.prog 5 #[.slice a0 n0 cap0, .int .i64 n, .bool hf, .int .u32 fr, .bool he, .bool up, .int .i16 xp, .bool pl, .slice a8 n8 cap8] w fun e w' => e = .returned (.bool true) ∧ Below w.heap.size w w' := by
  have m0 : n0 ≤ maxLen := Nat.le_trans h0.1 h0.2.1
  have m8 : n8 ≤ maxLen := Nat.le_trans h8.1 h8.2.1
  have C0 : Hid (BCame w a0 n0 cap0) := h0
  have C8 : Hid (BCame w a8 n8 cap8) := h8
  clear h0 h8
  go_enter Try.func5, Try.ntmps5
  go_wp2_with fail
  refine (bytes14_any a0 a8 n0 cap0 n8 cap8 n fr xp hf he up pl _ m0 m8).mono ?_
  rintro e w' ⟨⟨t, rfl⟩, rfl⟩
  cases t
  case false =>
    go_wp2_with fail
    go_ret
    exact ⟨rfl, Below.refl _ _⟩
  by_cases hb0 : 524288 < n0
  · have : (524288 : Int) < n0 := by omega
    go_wp2_with fail
    go_ret
    exact ⟨rfl, Below.refl _ _⟩
  have d0 : decide ((524288 : Int) < n0) = false := decide_eq_false (by omega)
  by_cases hb8 : 524288 < n8
  · have : (524288 : Int) < n8 := by omega
    go_wp2_with fail
    go_ret
    exact ⟨rfl, Below.refl _ _⟩
  have d8 : decide ((524288 : Int) < n8) = false := decide_eq_false (by omega)
  obtain ⟨k1, k2, nil0, P, rfl, rP, sP⟩ := C0.out
  obtain ⟨k3, k4, nil8, S, rfl, rS, sS⟩ := C8.out
  have sP := sP (by omega)
  have sS := sS (by omega)
  clear C0 C8
  have hmk : ∀ w, (Instr.makeSlice 22 (.int .i64 0) (.int .i64 ((P.length : Int) + S.length + 64))).run Try.prog w = .ok (.slice (some ⟨w.heap.size, 0, none⟩) 0 (P.length + S.length + 64)) (w.alloc (.cells (madeCells #[.int .u8 0] (P.length + S.length + 64)) 5)) := fun w => by
    have := run_makeB (P.length + S.length + 64) (by omega) w
    simpa using this
  have o0 := own_made w' (P.length + S.length + 64) (by simp only [maxLen]; omega)
  go_upto_region 7 with fail
  go_upto_region 8 with (at_builtin; refine appB _ rfl _ _ rfl w'.heap.size _ [] rfl (by exact o0) a0 P.length cap0 P rfl rfl (by exact sP.alloc _) nil0 (by simp) (by simp) ?_; intro v1 w1 o1 b1)
  have b1' : Below w'.heap.size w' w1 := ((Below.refl _ _).alloc (Nat.le_refl _) _).trans b1
  have hs1 := b1'.size
  rw [List.nil_append] at o1
  have O1 : Hid (BOwn w1 w'.heap.size v1 P) := o1
  have B1 : Hid (Below w'.heap.size w' w1) := b1'
  clear b1 o0 hmk b1' o1
  go_wp2_with fail
  refine (int_any _ _ _ P O1.out n hn1 hn2 (by omega) hs1).mono ?_
  rintro e w2 ⟨⟨v2, xs, t, rfl, ht, hg, hxl, o2⟩, b2⟩
  have st : Hid (St w' w2 v2 P 21 (fun s => s = 2 ∨ s = 3)) := ⟨xs, t, ht, hg, hxl, o2, B1.out.trans b2⟩
  clear ht hg hxl o2 b2 B1 O1 hs1 hn1 hn2
  go_upto_if 56 with fail
  go_cut [20] (fun tv wx => Hid (St w' wx tv P 42 (fun s => s = 2 ∨ s = 3 ∨ s = 5)))
  case first =>
    cases hf
    case false =>
      go_wp2_with fail
      go_meet
      case rel => exact st.out.mono (by omega) (fun s hs => by rcases hs with h | h <;> simp [h])
    case true =>
      obtain ⟨num, s, hs, hg, hl, ho, hb⟩ := st.out
      have hsz := hb.size
      obtain ⟨fk, rfl⟩ : ∃ k : Nat, fr = (k : Int) := ⟨fr.toNat, by omega⟩
      have HO : Hid _ := ho
      have HB : Hid _ := hb
      have HG : Hid (goes 0 num s ∧ (s = 2 ∨ s = 3)) := ⟨hg, hs⟩
      clear ho hb hg hs st
      have hpl : (P ++ num).length ≤ 600000 := by simp; omega
      go_upto_region 11 with (at_builtin; refine appB _ rfl _ _ rfl w'.heap.size _ (P ++ num) rfl (by exact HO.out.alloc _) _ 1 1 [46] rfl rfl (by exact bis_new _ _ (by simp)) (by simp) (by omega) (by simp; omega) ?_; intro v3 w3 o3 b3)
      have st2 : Hid (St w' w3 v3 P 22 (fun s => s = 4)) := St.more HG.out.1 (goes_dot HG.out.2) rfl (by simp; omega) o3 HB.out (((Below.refl _ _).alloc hsz _).trans b3)
      clear o3 b3 HG HO HB hsz hl hpl
      obtain ⟨num, s, rfl, hg, hl, ho, hb⟩ := st2.out
      have hsz := hb.size
      clear st2
      go_wp2_with fail
      refine (uint_any _ _ _ (P ++ num) ho fk (by omega) (by simp; omega) hsz).mono ?_
      rintro e w4 ⟨⟨v4, ds, rfl, hd, hdl, o4⟩, b4⟩
      have st3 : Hid (St w' w4 v4 P 42 (fun s => s = 2 ∨ s = 3 ∨ s = 5)) := St.more hg (dec_frac hd) (Or.inr (Or.inr rfl)) (by omega) o4 hb b4
      clear o4 b4 hd ho hb hg
      go_wp2_with fail
      go_meet
      case rel => exact st3
  case rest =>
    have st := hcut
    clear hcut
    go_upto_if 64 with fail
    go_cut [20, 21] (fun tv _ wx => Hid (St w' wx tv P 70 (fun s => s = 2 ∨ s = 3 ∨ s = 5 ∨ s = 8)))
    case first =>
      cases he
      case false =>
        go_wp2_with fail
        go_meet
        case rel => exact st.out.mono (by omega) (fun s hs => by rcases hs with h | h | h <;> simp [h])
      case true =>
        go_upto_if 65 with fail
        go_cut [20] (fun tv wx => Hid (St w' wx tv P 43 (fun s => s = 6)))
        case first =>
          obtain ⟨num, s, hs, hg, hl, ho, hb⟩ := st.out
          have hsz := hb.size
          have HO : Hid _ := ho
          have HB : Hid _ := hb
          have HG : Hid (goes 0 num s ∧ (s = 2 ∨ s = 3 ∨ s = 5)) := ⟨hg, hs⟩
          clear ho hb hg hs st
          have hpl : (P ++ num).length ≤ 600000 := by simp; omega
          cases up
          case false =>
            go_wp2_with (at_builtin; refine appB _ rfl _ _ rfl w'.heap.size _ (P ++ num) rfl (by exact HO.out.alloc _) _ 1 1 [101] rfl rfl (by exact bis_new _ _ (by simp)) (by simp) (by omega) (by simp; omega) ?_; intro v3 w3 o3 b3)
            go_meet
            case rel => exact St.more HG.out.1 (goes_e HG.out.2 (Or.inl rfl)) rfl (by simp; omega) o3 HB.out (((Below.refl _ _).alloc hsz _).trans b3)
          case true =>
            go_wp2_with (at_builtin; refine appB _ rfl _ _ rfl w'.heap.size _ (P ++ num) rfl (by exact HO.out.alloc _) _ 1 1 [69] rfl rfl (by exact bis_new _ _ (by simp)) (by simp) (by omega) (by simp; omega) ?_; intro v3 w3 o3 b3)
            go_meet
            case rel => exact St.more HG.out.1 (goes_e HG.out.2 (Or.inr rfl)) rfl (by simp; omega) o3 HB.out (((Below.refl _ _).alloc hsz _).trans b3)
        case rest =>
          clear st
          have st := hcut
          clear hcut
          go_upto_if 75 with fail
          go_cut [20, 21] (fun tv ev wx => ∃ k : Nat, ev = .int .i64 k ∧ k ≤ 32768 ∧ Hid (St w' wx tv P 44 (fun s => s = 6 ∨ s = 7)))
          case first =>
            by_cases hneg : xp < 0
            · obtain ⟨num, s, rfl, hg, hl, ho, hb⟩ := st.out
              have hsz := hb.size
              have HO : Hid _ := ho
              have HB : Hid _ := hb
              have HG : Hid (goes 0 num 6) := hg
              clear ho hb hg st
              have hpl : (P ++ num).length ≤ 600000 := by simp; omega
              go_wp2_with (at_builtin; refine appB _ rfl _ _ rfl w'.heap.size _ (P ++ num) rfl (by exact HO.out.alloc _) _ 1 1 [45] rfl rfl (by exact bis_new _ _ (by simp)) (by simp) (by omega) (by simp; omega) ?_; intro v3 w3 o3 b3)
              go_meet
              case rel => exact ⟨(-xp).toNat, by rw [show ((-xp).toNat : Int) = -xp by omega], by omega, St.more HG.out (goes_sign (Or.inr rfl)) (Or.inr rfl) (by simp; omega) o3 HB.out (((Below.refl _ _).alloc hsz _).trans b3)⟩
            · have dn : decide (xp < 0) = false := decide_eq_false hneg
              cases pl
              case false =>
                go_wp2_with fail
                go_meet
                case rel => exact ⟨xp.toNat, by rw [show (xp.toNat : Int) = xp by omega], by omega, st.out.mono (by omega) (fun s hs => Or.inl hs)⟩
              case true =>
                obtain ⟨num, s, rfl, hg, hl, ho, hb⟩ := st.out
                have hsz := hb.size
                have HO : Hid _ := ho
                have HB : Hid _ := hb
                have HG : Hid (goes 0 num 6) := hg
                clear ho hb hg st
                have hpl : (P ++ num).length ≤ 600000 := by simp; omega
                go_wp2_with (at_builtin; refine appB _ rfl _ _ rfl w'.heap.size _ (P ++ num) rfl (by exact HO.out.alloc _) _ 1 1 [43] rfl rfl (by exact bis_new _ _ (by simp)) (by simp) (by omega) (by simp; omega) ?_; intro v3 w3 o3 b3)
                go_meet
                case rel => exact ⟨xp.toNat, by rw [show (xp.toNat : Int) = xp by omega], by omega, St.more HG.out (goes_sign (Or.inl rfl)) (Or.inr rfl) (by simp; omega) o3 HB.out (((Below.refl _ _).alloc hsz _).trans b3)⟩
          case rest =>
            clear st
            obtain ⟨k, rfl, hk, st⟩ := hcut
            obtain ⟨num, s, hs, hg, hl, ho, hb⟩ := st.out
            have hsz := hb.size
            have HO : Hid _ := ho
            have HB : Hid _ := hb
            have HG : Hid (goes 0 num s ∧ (s = 6 ∨ s = 7)) := ⟨hg, hs⟩
            clear ho hb hg hs st
            go_wp2_with fail
            refine (uint_any _ _ _ (P ++ num) HO.out k (by omega) (by simp; omega) hsz).mono ?_
            rintro e w4 ⟨⟨v4, ds, rfl, hd, hdl, o4⟩, b4⟩
            have st3 : Hid (St w' w4 v4 P 70 (fun s => s = 2 ∨ s = 3 ∨ s = 5 ∨ s = 8)) := St.more HG.out.1 (dec_exp HG.out.2 hd) (Or.inr (Or.inr (Or.inr rfl))) (by omega) o4 HB.out b4
            clear o4 b4 hd HO HB HG
            go_wp2_with fail
            go_meet
            case rel => exact st3
    case rest =>
      clear st
      have st := hcut
      clear hcut
      obtain ⟨num, s, hs, hg, hl, ho, hb⟩ := st.out
      have hsz := hb.size
      have HB : Hid _ := hb
      have HG : Hid (goes 0 num s ∧ (s = 2 ∨ s = 3 ∨ s = 5 ∨ s = 8)) := ⟨hg, hs⟩
      have hpl : (P ++ num).length ≤ 600000 := by simp; omega
      obtain ⟨aT, capT, rfl, hcT, hcm, hT⟩ := ho.slice (by omega)
      have HO : Hid _ := ho
      clear ho hb hg hs st hT
      have RD : Hid (ans P.length (rdN ((P ++ num ++ [44] ++ S).drop P.length)) = ((P ++ num).length : Nat)) := rdN_written HG.out.2 HG.out.1 P S
      clear HG
      have hQ : Hid (P.length ≤ 524288 ∧ num.length ≤ 70) := ⟨by omega, hl⟩
      generalize hq : P ++ num = Q at *
      clear hq hl
      go_upto_region 25 with (at_builtin; refine appB _ rfl _ _ rfl w'.heap.size _ Q rfl (by exact HO.out.alloc _) _ 1 1 [44] rfl rfl (by exact bis_new _ _ (by simp)) (by simp) (by omega) (by simp; omega) ?_; intro v3 w3 o3 b3)
      have HB3 : Hid (Below w'.heap.size w' w3) := HB.out.trans (((Below.refl _ _).alloc hsz _).trans b3)
      have hs3 := HB3.out.size
      have O3 : Hid _ := o3
      have h3l : (Q ++ [44]).length ≤ 700000 := by simp; omega
      clear b3 o3 HO HB hsz
      go_upto_region 26 with (at_builtin; refine appB _ rfl _ _ rfl w'.heap.size _ (Q ++ [44]) rfl (by exact O3.out) a8 S.length cap8 S rfl rfl (by exact sS.below HB3.out) nil8 (by omega) (by omega) ?_; intro v5 w5 o5 b5)
      have HB5 : Hid (Below w'.heap.size w' w5) := HB3.out.trans b5
      have h5l : (Q ++ [44] ++ S).length ≤ 1400000 := by rw [List.length_append]; omega
      clear b5 O3 HB3 hs3
      generalize Q ++ [44] ++ S = T at *
      obtain ⟨aT2, capT2, rfl, hcT2, hcm2, hT2⟩ := o5.slice (by omega)
      clear o5
      go_wp2_with fail
      refine (znum_any aT2 capT2 P.length T _ hT2 (by omega)).mono ?_
      rw [RD.out]
      rintro e w6 ⟨rfl, rfl⟩
      go_wp2_with fail
      go_ret
      exact ⟨rfl, HB5.out⟩

end Go.Proofs.Qxb6605189a
