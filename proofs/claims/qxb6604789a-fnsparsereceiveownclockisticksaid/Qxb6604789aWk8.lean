/-
  WALK: Receive.
-/
import Derived.Test.Qxb6604789aWk7
import Derived.Test.Qxb6604789aPlain2
import Derived.RegionTactic
import Derived.BigRegion
import Derived.ChangeAlike
namespace Go.Proofs.Qxb6604789a
open Go.RowKit

/-- The slice at av: nil, or a row that holds just l. -/
def Holds (w : World) (av : Option Addr) (l : List (Int × Int)) : Prop := (av = none ∧ l = []) ∨ ∃ g, av = some ⟨g, 0, none⟩ ∧ Row w 41 g l

theorem Holds.at {w : World} {av : Option Addr} {l : List (Int × Int)} (h : Holds w av l) {k : Nat} (hk : k < l.length) : ∃ g, av = some ⟨g, 0, none⟩ ∧ Row w 41 g l := by
  rcases h with ⟨_, rfl⟩ | h
  · simp at hk
  · exact h

/-- m lies apart from v's block, or m is v. -/
def Sep (av am : Option Addr) (c m : List (Int × Int)) : Prop := (∀ g b off, av = some ⟨g, 0, none⟩ → am = some ⟨b, off, none⟩ → b ≠ g) ∨ (am = av ∧ m = c)

theorem src_is {w wr : World} {av am : Option Addr} {c m : List (Int × Int)} {y : Nat} (hs : SlIs w am m) (sep : Sep av am c m) (hch : Chg (fun j => av = some ⟨j, 0, none⟩) w wr) (hh : Holds wr av (raise c (m.take y))) (hc : Good c) : SlIs wr am m := by
  rcases sep with sep | ⟨rfl, rfl⟩
  · refine ⟨hs.1, fun hne => ?_⟩
    obtain ⟨b, off, rfl, hl⟩ := hs.2 hne
    exact ⟨b, off, rfl, hch.lies hl fun h => sep b b off h rfl rfl⟩
  · rw [raise_self hc] at hh
    refine ⟨hs.1, fun hne => ?_⟩
    rcases hh with ⟨_, h⟩ | ⟨g, rfl, hr⟩
    · exact absurd h hne
    · exact ⟨g, 0, rfl, by have := hr.lies m.length; rwa [List.take_length] at this⟩

theorem Holds.alloc {w : World} {av : Option Addr} {l : List (Int × Int)} (h : Holds w av l) (o : Obj) : Holds (w.alloc o) av l := by
  rcases h with h | ⟨g, e, hr⟩
  · exact Or.inl h
  · exact Or.inr ⟨g, e, hr.alloc o⟩
theorem Holds.of_heap {w w' : World} {av : Option Addr} {l : List (Int × Int)} (h : Holds w av l) (e : w'.heap = w.heap) : Holds w' av l := by
  rcases h with h | ⟨g, ea, hr⟩
  · exact Or.inl h
  · exact Or.inr ⟨g, ea, hr.of_heap e⟩

/-- The book of the first pass: an entry that v lacks; one that v holds. -/
theorem book_miss {c m : List (Int × Int)} {y t q : Nat} (hm : Good m) (hy : y < m.length) (hno : ¬ keyIn c (eP m y)) (hq : q = (lkL c (m.take y)).length) (J : ∀ i, i < t → eP c i < eP m y) :
    q + 1 = (lkL c (m.take (y + 1))).length ∧ ∀ i, i < t → ∀ z, y + 1 ≤ z → z < m.length → eP c i < eP m z := by
  refine ⟨by rw [lkL_miss hy hno, hq]; simp, fun i hi z hz hzl => ?_⟩
  have := J i hi
  have := hm.lt (show y < z by omega) hzl
  omega
theorem book_hit {c m : List (Int × Int)} {y t q : Nat} (hm : Good m) (hy : y < m.length) (hk : keyIn c (eP m y)) (hq : q = (lkL c (m.take y)).length) (J : ∀ i, i < t → eP c i < eP m y) :
    q = (lkL c (m.take (y + 1))).length ∧ ∀ i, i < t → ∀ z, y + 1 ≤ z → z < m.length → eP c i < eP m z := by
  refine ⟨by rw [lkL_hit hy hk, hq], fun i hi z hz hzl => ?_⟩
  have := J i hi
  have := hm.lt (show y < z by omega) hzl
  omega

theorem SlIs.block {a : World} {am : Option Addr} {m : List (Int × Int)} (h : SlIs a am m) : ∀ c off, am = some ⟨c, off, none⟩ → m ≠ [] → c < a.heap.size := by
  intro c off e hne
  obtain ⟨c', off', e', hl⟩ := h.2 hne
  have h0 : 0 < m.length := by
    rcases Nat.eq_zero_or_pos m.length with h0 | h0
    · exact absurd (List.eq_nil_of_length_eq_zero h0) hne
    · exact h0
  rw [e] at e'
  have : c = c' := by simpa using congrArg (fun x : Option Addr => x.map Addr.block) e'
  subst this
  exact World.block_lt_of_cell? a _ (hl 0 h0).1

theorem SlIs.chg {D : Nat → Prop} {a b : World} {am : Option Addr} {m : List (Int × Int)} (h : SlIs a am m) (hch : Chg D a b) (hd : ∀ c off, am = some ⟨c, off, none⟩ → m ≠ [] → ¬ D c) : SlIs b am m := by
  refine ⟨h.1, fun hne => ?_⟩
  obtain ⟨c, off, e, hl⟩ := h.2 hne
  exact ⟨c, off, e, hch.lies hl (hd c off e hne)⟩

theorem Holds.clk {w : World} {B n : Nat} {av : Option Addr} {l : List (Int × Int)} (h : Holds w av l) (hn : l.length = n) (hB : ∀ g, av = some ⟨g, 0, none⟩ → B ≤ g) (hm : n ≤ maxLen) : Clk w B (.slice av n n) l := by
  subst hn
  rcases h with ⟨rfl, rfl⟩ | ⟨g, rfl, hr⟩
  · exact Or.inl ⟨rfl, rfl⟩
  · exact clk_mk l [] hr (by simp) (hB g rfl) rfl rfl hm

theorem Holds.base {w : World} {n : Nat} {av : Option Addr} {l : List (Int × Int)} (h : Holds w av l) (hn : l.length = n) : Base w av n n l := by
  subst hn
  rcases h with ⟨rfl, rfl⟩ | ⟨g, rfl, hr⟩
  · exact Or.inl ⟨rfl, rfl, rfl, rfl⟩
  · exact Or.inr ⟨g, rfl, rfl, by have := hr.lies l.length; rwa [List.take_length] at this⟩

theorem own_none (av : Option Addr) (n c j : Nat) (h : (Value.slice av n c).ownBlock = some j) (w : World) (l : List (Int × Int)) (hh : Holds w av l) : av = some ⟨j, 0, none⟩ := by
  rcases hh with ⟨rfl, _⟩ | ⟨g, rfl, _⟩
  · cases h
  · have : g = j := by simpa [Value.ownBlock] using h
    rw [this]

theorem hit_row {wr W : World} {o : Obj} {g y t : Nat} {c m : List (Int × Int)} {V : Int} (hr : Row wr 41 g (raise c (m.take y))) (hc : Good c) (hm : Good m) (ht : t < c.length) (hy : y < m.length) (he : eP c t = eP m y)
    (hV : max (eN (raise c (m.take y)) t) (eN m y) = V) (hW : W.heap = (wr.alloc o).heap) : Row (W.setCell ⟨g, t * 2 + 1, none⟩ (.int .u64 V)) 41 g (raise c (m.take (y + 1))) := by
  have hr2 := Row.putN ((hr.alloc o).of_heap hW) (show t < (raise c (m.take y)).length by rw [raise_length]; exact ht) V
  have e := raise_hit hc hm ht hy he
  rw [hV] at e
  rw [e] at hr2
  exact hr2

set_option maxHeartbeats 2000000 in
set_option maxRecDepth 100000 in
theorem recv_any (w : World) (B x : Nat) (av am : Option Addr) (cm : Nat) (p : Int) (c m : List (Int × Int)) (hx : Var w x (.slice av c.length c.length)) (hh : Holds w av c) (hB : ∀ g, av = some ⟨g, 0, none⟩ → B ≤ g) (hBs : B ≤ w.heap.size)
    (hs : SlIs w am m) (hc : Good c) (hm : Good m) (hcl : c.length ≤ 32768) (hml : m.length ≤ 32768) (sep : Sep av am c m) :
    Calls Try.prog 13 #[.pointer (some ⟨x, 0, none⟩), .int .i64 p, .slice am m.length cm] w fun e w' => e = .returned (.tuple #[]) ∧ ∃ v' F, Var w' x v' ∧ Clk w' B v' F ∧ RSpec c m p F ∧ F.length ≤ 100000 ∧ Chg (fun j => j = x ∨ av = some ⟨j, 0, none⟩) w w' := by
  have x0 := hx.cell
  have hxav : ∀ j, av = some ⟨j, 0, none⟩ → x ≠ j := by
    intro j hj
    rcases hh with ⟨h1, _⟩ | ⟨g, h1, hr⟩
    · rw [h1] at hj; cases hj
    · rw [h1] at hj
      have : g = j := by simpa using hj
      subst this
      exact hx.ne hr
  go_enter Try.func13, Try.ntmps13
  go_wp2_with fail
  go_loopw [7, 8, 19] (fun lkv atv iv wr => ∃ (y t q : Nat), y ≤ m.length ∧ t ≤ c.length ∧ q ≤ y ∧ iv = .int .i64 y ∧ atv = .int .i64 t ∧ lkv = .int .i64 q ∧ Chg (fun j => av = some ⟨j, 0, none⟩) w wr ∧ Holds wr av (raise c (m.take y)) ∧ Hid (q = (lkL c (m.take y)).length ∧ ∀ i, i < t → ∀ z, y ≤ z → z < m.length → eP c i < eP m z)) (fun _ _ i _ => m.length - (intOf i).toNat)
  case atStart => exact ⟨0, 0, 0, Nat.zero_le _, Nat.zero_le _, Nat.le_refl _, rfl, rfl, rfl, Chg.refl _ _, by rw [List.take_zero, raise_nil hc.2]; exact hh, by simp [Hid, lkL]⟩
  case round =>
    obtain ⟨y, t, q, hy, ht, hq, rfl, rfl, rfl, hch, hhr, I⟩ := hrel
    by_cases hyl : y < m.length
    · obtain ⟨b, off, rfl, hl⟩ := (src_is hs sep hch hhr hc).at hyl
      obtain ⟨c0, c1⟩ := hl y hyl
      have hbl := World.block_lt_of_cell? wr _ c0
      go_wp2_with fail
      go_loopw [8] (fun atv w2 => ∃ t' n : Nat, t ≤ t' ∧ t' ≤ c.length ∧ atv = .int .i64 t' ∧ w2 = (wr.alloc (.cells #[.int .i64 (eP m y), .int .u64 (eN m y)] 41)).drewN n ∧ Hid (∀ i, i < t' → eP c i < eP m y)) (fun atv _ => c.length - (intOf atv).toNat)
      case atStart => exact ⟨t, 0, Nat.le_refl _, ht, rfl, rfl, fun i hi => I.out.2 i hi y (Nat.le_refl _) hyl⟩
      case round =>
        obtain ⟨t', n, htt, htl, rfl, rfl, J⟩ := hrel
        by_cases htc : t' < c.length
        · obtain ⟨g, rfl, hr⟩ := hhr.at (k := t') (by rw [raise_length]; exact htc)
          have r0 := hr.cell0 (i := t') (by rw [raise_length]; exact htc)
          have r1 := hr.cell1 (i := t') (by rw [raise_length]; exact htc)
          rw [(raise_get htc).1] at r0
          have hgl := hr.lt
          have hd : decide (t' < c.length) = true := decide_eq_true htc
          by_cases hlt : eP c t' < eP m y
          · go_wp2_with fail
            go_quiet (fail)
            go_wp2
            go_roundw
            case rel =>
              refine ⟨t' + 1, _, by omega, by omega, by go_num, rfl, fun i hi => ?_⟩
              by_cases he : i = t'
              · subst he; exact hlt
              · exact J.out i (by omega)
            case measure => simp [intOf]; omega
          · by_cases heq : eP c t' = eP m y
            · have z1 := hr.frozen (t' * 2 + 1)
              have hqe : (eP c t' == eP m y) = true := beq_iff_eq.2 heq
              have HE : Hid (eP c t' = eP m y) := heq
              clear heq
              by_cases hmx : eN (raise c (m.take y)) t' < eN m y
              · go_wp2_with fail
                go_quiet (fail)
                go_wp2
                go_quiet (fail)
                go_wp2
                go_region
                go_wp2
                go_roundw
                case rel =>
                  refine ⟨y + 1, t', q, by omega, htl, by omega, by go_num, rfl, rfl, ((hch.alloc _).drewN _).setCell rfl _, Or.inr ⟨g, rfl, ?_⟩, book_hit hm hyl (by rw [← HE.out]; exact keyIn_at htc) I.out.1 J.out⟩
                  exact hit_row hr hc hm htc hyl HE.out (by omega) rfl
                case measure => simp [intOf]; omega
              · go_wp2_with fail
                go_quiet (fail)
                go_wp2
                go_quiet (fail)
                go_wp2
                go_region
                go_wp2
                go_roundw
                case rel =>
                  refine ⟨y + 1, t', q, by omega, htl, by omega, by go_num, rfl, rfl, ((hch.alloc _).drewN _).setCell rfl _, Or.inr ⟨g, rfl, ?_⟩, book_hit hm hyl (by rw [← HE.out]; exact keyIn_at htc) I.out.1 J.out⟩
                  exact hit_row hr hc hm htc hyl HE.out (by omega) rfl
                case measure => simp [intOf]; omega
            · have hno : ¬ keyIn c (eP m y) := miss_at hc J.out (fun _ => ⟨heq, by omega⟩)
              have hqe : (eP c t' == eP m y) = false := beq_eq_false_iff_ne.2 heq
              go_wp2_with fail
              go_quiet (fail)
              go_wp2
              go_quiet (fail)
              go_wp2
              go_roundw
              case rel =>
                exact ⟨y + 1, t', q + 1, by omega, htl, by omega, by go_num, rfl, by go_num, (hch.alloc _).drewN _, by rw [raise_miss hm hyl hno]; exact (hhr.alloc _).of_heap rfl, book_miss hm hyl hno I.out.1 J.out⟩
              case measure => simp [intOf]; omega
        · have hd : decide (t' < c.length) = false := decide_eq_false htc
          go_wp2_with fail
          go_quiet (fail)
          go_wp2
          go_quiet (fail)
          go_wp2
          go_roundw
          case rel =>
            have hno : ¬ keyIn c (eP m y) := miss_at hc J.out (fun h => absurd h htc)
            exact ⟨y + 1, t', q + 1, by omega, htl, by omega, by go_num, rfl, by go_num, (hch.alloc _).drewN _, by rw [raise_miss hm hyl hno]; exact (hhr.alloc _).of_heap rfl, book_miss hm hyl hno I.out.1 J.out⟩
          case measure => simp [intOf]; omega
    · have hye : y = m.length := by omega
      subst hye
      have hhr' := hhr
      rw [List.take_length] at hhr
      by_cases hq0 : q = 0
      · subst hq0
        have hlk : (lkL c m).length = 0 := by have := I.out.1; rw [List.take_length] at this; exact this.symm
        have ms := mspec_none hc hm hlk
        obtain ⟨k, hk⟩ := exists_found (ms.pos hc hm) p
        have hxr : Var wr x (.slice av c.length c.length) := (hch.block x hx.lt (fun h => hxav x h rfl)).trans hx
        go_wp2_with fail
        refine (tick_any _ B x _ (raise c m) p k (by exact hxr) (hhr.clk (raise_length c m) hB (by simp only [maxLen]; omega)) (Nat.le_trans hBs hch.size) (ms.pos hc hm) (by rw [raise_length]; omega) hk).mono ?_
        rintro e w1 ⟨rfl, v', h1, h2, h3⟩
        go_wp2_with fail
        go_end0
        refine ⟨rfl, v', _, h1, h2, tick_spec hc hm ms hk, ?_, ?_⟩
        · have := tickL_length (raise c m) p k
          rw [raise_length] at this
          omega
        · exact (hch.mono fun _ _ h => Or.inr h).trans (h3.mono fun j _ h => by
            rcases h with h | h
            · exact Or.inl h
            · exact Or.inr (own_none av _ _ j h _ _ hh))
      · have hlk : q = (lkL c m).length := by have := I.out.1; rw [List.take_length] at this; exact this
        have hsm := src_is hs sep hch hhr' hc
        have hxr : Var wr x (.slice av c.length c.length) := (hch.block x hx.lt (fun h => hxav x h rfl)).trans hx
        have LK : Hid (q = (lkL c m).length) := hlk
        clear hlk
        go_wp2_with fail
        refine (grow_any wr av c.length q (raise c m) (hhr.base (raise_length c m)) (by omega) (by omega)).mono ?_
        rintro e w2 ⟨cap, rfl, k1, k2, hr, hch2, hsz⟩
        have k3 : cap ≤ 9223372036854775807 := k2
        have k4 : (c.length : Int) + q ≤ cap := by omega
        have hsm2 : SlIs w2 am m := hsm.chg hch2 (fun _ _ _ _ h => h)
        have hmb := hsm.block
        have hx2 : Var w2 x (.slice av c.length c.length) := (hch2.block x hxr.lt (fun h => h)).trans hxr
        have hxH := hxr.lt
        have hcw : Chg (fun j => av = some ⟨j, 0, none⟩) w w2 := hch.trans (hch2.mono fun _ _ h => h.elim)
        have hHs := hch.size
        clear hsm hxr hch2 hhr hhr' hch I
        generalize wr.heap.size = H at *
        go_wp2_with fail
        go_loopw [11, 12, 13] (fun iv jv kv w3 => ∃ (a b r : Nat) (T V : List (Int × Int)), a ≤ c.length ∧ b ≤ m.length ∧ a ≤ r ∧ r ≤ c.length + q ∧ iv = .int .i64 ((a : Int) - 1) ∧ jv = .int .i64 ((b : Int) - 1) ∧ kv = .int .i64 ((r : Int) - 1) ∧ Chg (fun j => j = H) w2 w3 ∧ Row w3 41 H V ∧ V.length = cap ∧ Hid (Back c m V (c.length + q) a b r T)) (fun iv jv _ _ => (intOf iv + intOf jv + 2).toNat)
        case atStart =>
          refine ⟨c.length, m.length, c.length + q, [], _, Nat.le_refl _, Nat.le_refl _, by omega, Nat.le_refl _, rfl, rfl, by go_num, Chg.refl _ _, hr, by simp [raise_length]; omega, BInv.start c m, ?_, ?_, ?_⟩
          · rw [List.take_append_of_le_length (by rw [raise_length]; exact Nat.le_refl _)]
          · exact List.drop_eq_nil_of_le (by simp; omega)
          · rw [List.take_length, ← LK.out]
        case round =>
          obtain ⟨a, b, r, T, V, ha, hb, har, hrN, rfl, rfl, rfl, hch3, hrow, hVl, I3⟩ := hrel
          by_cases hb0 : b = 0
          · subst hb0
            have ms := I3.out.done hc hm hrN
            obtain ⟨k, hk⟩ := exists_found (ms.pos hc hm) p
            have hlN : (V.take (c.length + q)).length = c.length + q := by simp; omega
            have hx3 := (hch3.block x (Nat.lt_of_lt_of_le hxH (by omega)) (by omega)).trans hx2
            have y0 := Var.cell hx3
            have y1 := Var.frozen hx3
            have HK : Hid (Found (V.take (c.length + q)) p k) := hk
            clear hk
            go_wp2_with fail
            have hne : x ≠ H := by omega
            have hxs := Var.set hx3 (.slice (some ⟨H, 0, none⟩) (c.length + q) cap)
            have hrs : Row (wr.setCell ⟨x, 0, none⟩ (.slice (some ⟨H, 0, none⟩) (c.length + q) cap)) 41 H V := hrow.of_block (Below.heap_setCell _ _ _ _ (fun e => hne e.symm))
            have hck : Clk (wr.setCell ⟨x, 0, none⟩ (.slice (some ⟨H, 0, none⟩) (c.length + q) cap)) B (.slice (some ⟨H, 0, none⟩) (c.length + q) cap) (V.take (c.length + q)) :=
              clk_mk _ (V.drop (c.length + q)) hrs (List.take_append_drop _ _).symm (Nat.le_trans hBs hHs) hlN.symm hVl.symm k2
            have hcx : Chg (fun j => j = x ∨ av = some ⟨j, 0, none⟩) w (wr.setCell ⟨x, 0, none⟩ (.slice (some ⟨H, 0, none⟩) (c.length + q) cap)) :=
              Chg.setCell (D := fun j => j = x ∨ av = some ⟨j, 0, none⟩) ((hcw.mono fun _ _ h => Or.inr h).trans' hch3 (fun j hj h => absurd h (by omega))) (p := ⟨x, 0, none⟩) (Or.inl rfl) _
            refine (tick_any _ B x _ (V.take (c.length + q)) p k (by exact hxs) (by exact hck) (Nat.le_trans hBs hcx.size) (ms.pos hc hm) (by rw [hlN]; omega) HK.out).mono ?_
            rintro e w4 ⟨rfl, v', g1, g2, g3⟩
            go_wp2_with fail
            go_end0
            refine ⟨rfl, v', _, g1, g2, tick_spec hc hm ms HK.out, ?_, ?_⟩
            · have := tickL_length (V.take (c.length + q)) p k
              rw [hlN] at this
              omega
            · exact hcx.trans' g3 (fun j hj h => by
                rcases h with h | h
                · exact Or.inl h
                · have : H = j := by simpa [Value.ownBlock] using h
                  omega)
          obtain ⟨b', rfl⟩ : ∃ b', b = b' + 1 := ⟨b - 1, by omega⟩
          obtain ⟨mb, mo, rfl, hm3⟩ := (hsm2.chg hch3 (fun c0 o0 e0 hne h => by have := hmb c0 o0 e0 hne; omega)).at (show b' < m.length by omega)
          obtain ⟨e0, e1⟩ := hm3 b' (by omega)
          by_cases ha0 : a = 0
          · subst ha0
            have hp0 : 0 < 0 → eP c (0 - 1) < eP m b' := by omega
            have hr1 := I3.out.pos hc hm hp0
            obtain ⟨r', rfl⟩ : ∃ r', r = r' + 1 := ⟨r - 1, by omega⟩
            have NB : Hid _ := I3.out.fromM hc hm (by omega) (show r' < c.length + q by omega) hp0
            have u0 := hrow.cell0 (i := r') (by omega)
            have u1 := hrow.cell1 (i := r') (by omega)
            have z0 := hrow.frozen (r' * 2)
            have z1 := hrow.frozen (r' * 2 + 1)
            have q2 : (r' : Int) < (c.length : Int) + q := by omega
            have q3 : (b' : Int) < (m.length : Int) := by omega
            have q5 : (0 : Int) ≤ (b' : Int) := by omega
            have q6 : (0 : Int) ≤ (r' : Int) := by omega
            go_wp2_with fail
            go_quiet (fail)
            go_wp2
            go_roundw
            case rel => exact ⟨0, b', r', _, _, by omega, by omega, NB.out.2, by omega, rfl, by go_num, by go_num, ((hch3.drewN _).setCell rfl _).setCell rfl _, Row.put (hrow.of_heap rfl) (by omega) _ _, by simpa using hVl, NB.out.1⟩
            case measure => simp [intOf]; omega
          obtain ⟨a', rfl⟩ : ∃ a', a = a' + 1 := ⟨a - 1, by omega⟩
          obtain ⟨r', rfl⟩ : ∃ r', r = r' + 1 := ⟨r - 1, by omega⟩
          have hPa : eP V a' = eP c a' := (get_of_take I3.out.2.1 (show a' < a' + 1 by omega)).1.trans (raise_get (by omega)).1
          have v0 := hrow.cell0 (i := a') (by omega)
          have v1 := hrow.cell1 (i := a') (by omega)
          rw [hPa] at v0
          have u0 := hrow.cell0 (i := r') (by omega)
          have u1 := hrow.cell1 (i := r') (by omega)
          have z0 := hrow.frozen (r' * 2)
          have z1 := hrow.frozen (r' * 2 + 1)
          clear hPa
          have q1 : (a' : Int) < (c.length : Int) + q := by omega
          have q2 : (r' : Int) < (c.length : Int) + q := by omega
          have q3 : (b' : Int) < (m.length : Int) := by omega
          have q4 : (0 : Int) ≤ (a' : Int) := by omega
          have q5 : (0 : Int) ≤ (b' : Int) := by omega
          have q6 : (0 : Int) ≤ (r' : Int) := by omega
          by_cases hge : eP m b' ≤ eP c a'
          · by_cases heq : eP c a' = eP m b'
            · have hqe : (eP c a' == eP m b') = true := beq_iff_eq.2 heq
              have NB : Hid _ := I3.out.fromC (b' := b') hc hm (by omega) (show r' < c.length + q by omega) hge (Or.inr ⟨rfl, heq.symm⟩)
              clear heq
              go_wp2_with fail
              go_quiet (fail)
              go_wp2
              go_quiet (fail)
              go_wp2
              go_roundw
              case rel => exact ⟨a', b', r', _, _, by omega, by omega, by omega, by omega, by go_num, by go_num, by go_num, ((hch3.drewN _).setCell rfl _).setCell rfl _, Row.put (hrow.of_heap rfl) (by omega) _ _, by simpa using hVl, NB.out⟩
              case measure => simp [intOf]; omega
            · have hqe : (eP c a' == eP m b') = false := beq_eq_false_iff_ne.2 heq
              have NB : Hid _ := I3.out.fromC (b' := b' + 1) hc hm (by omega) (show r' < c.length + q by omega) hge (Or.inl ⟨rfl, by omega⟩)
              go_wp2_with fail
              go_quiet (fail)
              go_wp2
              go_quiet (fail)
              go_wp2
              go_roundw
              case rel => exact ⟨a', b' + 1, r', _, _, by omega, by omega, by omega, by omega, by go_num, by go_num, by go_num, ((hch3.drewN _).setCell rfl _).setCell rfl _, Row.put (hrow.of_heap rfl) (by omega) _ _, by simpa using hVl, NB.out⟩
              case measure => simp [intOf]; omega
          · have NB : Hid _ := I3.out.fromM hc hm (by omega) (show r' < c.length + q by omega) (fun _ => by show eP c (a' + 1 - 1) < eP m b'; rw [Nat.add_sub_cancel]; omega)
            go_wp2_with fail
            go_quiet (fail)
            go_wp2
            go_roundw
            case rel => exact ⟨a' + 1, b', r', _, _, by omega, by omega, NB.out.2, by omega, by go_num, by go_num, by go_num, ((hch3.drewN _).setCell rfl _).setCell rfl _, Row.put (hrow.of_heap rfl) (by omega) _ _, by simpa using hVl, NB.out.1⟩
            case measure => simp [intOf]; omega

end Go.Proofs.Qxb6604789a
