/-
  WALK: authorityForm.
-/
import Derived.Test.Qxb6602685aWk1
import Derived.Deep.QuietTactic
import Derived.BigQuiet
namespace Go.Proofs.Qxb6602685a
open Go.RowKit

/-- The part of the host that is looked at: m bytes from o on. -/
def Part (l : Bool) (o m i : Nat) : Prop := (l = true → o = 1 ∧ m + 2 = i ∧ 0 < m) ∧ (l = false → o = 0 ∧ m = i)
def good (l : Bool) (c : Int) : Prop := regB c = true ∨ (l = true ∧ c = 58)

theorem host_iff {f : Nat → Int} {i o m : Nat} {l : Bool} (hl : l = true ↔ lit f i) (hp : Part l o m i) : hostOk f i ↔ 0 < m ∧ ∀ k, k < m → good l (f (o + k)) := by
  cases l with
  | true =>
    obtain ⟨rfl, rfl, h0⟩ := hp.1 rfl
    have hlit := hl.1 rfl
    constructor
    · rintro ⟨_, h1, _⟩
      refine ⟨h0, fun k hk => ?_⟩
      rcases h1 hlit k (by omega) with h | h
      · exact Or.inl (by rw [Nat.add_comm]; exact h)
      · exact Or.inr ⟨rfl, by rw [Nat.add_comm]; exact h⟩
    · rintro ⟨_, h1⟩
      refine ⟨by omega, fun _ j hj => ?_, fun h => absurd hlit h⟩
      rcases h1 j (by omega) with h | h
      · exact Or.inl (by rw [Nat.add_comm]; exact h)
      · exact Or.inr (by rw [Nat.add_comm]; exact h.2)
  | false =>
    obtain ⟨rfl, rfl⟩ := hp.2 rfl
    have hlit : ¬ lit f m := fun h => absurd (hl.2 h) (by decide)
    constructor
    · rintro ⟨h0, _, h1⟩
      refine ⟨h0, fun k hk => Or.inl (by rw [Nat.zero_add]; exact h1 hlit k hk)⟩
    · rintro ⟨h0, h1⟩
      refine ⟨h0, fun h => absurd h hlit, fun _ j hj => ?_⟩
      rcases h1 j hj with h | h
      · rw [Nat.zero_add] at h; exact h
      · exact absurd h.1 (by decide)

theorem bad_host {f : Nat → Int} {n i o m k : Nat} {l : Bool} (h : Last f n i) (hl : l = true ↔ lit f i) (hp : Part l o m i) (hk : k < m) (hb : ¬ good l (f (o + k))) : ¬ Auth f n := fun ha =>
  hb (((host_iff hl hp).1 ((auth_last h).1 ha).2.2).2 k hk)

theorem bad_port {f : Nat → Int} {n i k : Nat} (h : Last f n i) (hk : k < n - (i + 1)) (hb : ¬ isD (f (i + 1 + k)) = true) : ¬ Auth f n := fun ha =>
  hb (((auth_last h).1 ha).2.1 (i + 1 + k) (by omega) (by omega))

theorem all_good {f : Nat → Int} {n i o m : Nat} {l : Bool} (h : Last f n i) (hl : l = true ↔ lit f i) (hp : Part l o m i) (hg : ∀ k, k < m → good l (f (o + k))) (hd : ∀ k, k < n - (i + 1) → isD (f (i + 1 + k)) = true) : Auth f n ↔ 0 < m ∧ 0 < n - (i + 1) := by
  rw [auth_last h, host_iff hl hp]
  constructor
  · rintro ⟨h1, _, h2, _⟩
    exact ⟨h2, by omega⟩
  · rintro ⟨h1, h2⟩
    refine ⟨by omega, fun j a b => ?_, h1, hg⟩
    have := hd (j - (i + 1)) (by omega)
    rw [show i + 1 + (j - (i + 1)) = j by omega] at this
    exact this

theorem toList_nil (s : ByteArray) : s.toList = [] ↔ s.size = 0 := by
  rw [ByteArray.toList_eq, ← List.length_eq_zero_iff]
  exact Iff.rfl
theorem fin_ret (H Q : ByteArray) : ((!H.toList.isEmpty && !Q.toList.isEmpty) = true ↔ 0 < H.size ∧ 0 < Q.size) := by
  rw [Bool.and_eq_true, Bool.not_eq_true', Bool.not_eq_true', List.isEmpty_eq_false_iff, List.isEmpty_eq_false_iff, Ne, Ne, toList_nil, toList_nil]
  omega
theorem fin_no (H Q : ByteArray) (h : H.toList = []) : (false = true ↔ 0 < H.size ∧ 0 < Q.size) :=
  iff_no (by have := (toList_nil H).1 h; omega)

set_option maxHeartbeats 4000000 in
set_option maxRecDepth 100000 in
theorem form_any (t : ByteArray) (w : World) (ht : t.size ≤ 1048576) :
    Calls Try.prog 16 #[.string t] w fun e w' => RetB (Auth (bt t) t.size) e ∧ Grown w w' := by
  go_enter Try.func16, Try.ntmps16
  go_wp2_with fail
  refine (last_any t w (by omega)).mono ?_
  rintro e w' ⟨⟨r, rfl, hr⟩, rfl⟩
  rcases hr with ⟨rfl, hn⟩ | ⟨i, rfl, hL⟩
  · have HN : Hid (¬ Auth (bt t) t.size) := auth_none hn
    clear hn
    go_wp2_with fail
    go_ret
    exact ⟨⟨false, rfl, iff_no HN.out⟩, Grown.refl _⟩
  · have hi := hL.1
    have HL : Hid (Last (bt t) t.size i) := hL
    clear hL
    have q1 : (0 : Int) ≤ (i : Int) := by omega
    have q2 : (i : Int) ≤ (t.size : Int) := by omega
    have q3 : (0 : Int) ≤ (i : Int) + 1 := by omega
    have q4 : (i : Int) + 1 ≤ (t.size : Int) := by omega
    go_upto_region 4 with fail
    go_quiet (fail)
    go_upto_region 5 with fail
    have hHs : (t.extract 0 i).size = i := by rw [size_cut t (by omega)]; omega
    have hHb : Hid (∀ k, k < i → bt (t.extract 0 i) k = bt t k) := fun k hk => by rw [bt_cut t (by omega) (by omega), Nat.zero_add]
    have hQs : (t.extract (i + 1) t.size).size = t.size - (i + 1) := size_cut t (Nat.le_refl _)
    have hQb : Hid (∀ k, k < t.size - (i + 1) → bt (t.extract (i + 1) t.size) k = bt t (i + 1 + k)) := fun k hk => bt_cut t (Nat.le_refl _) hk
    have hgr : Hid (Grown w' (w'.drewN nq)) := Grown.refl _
    generalize t.extract 0 i = H at *
    generalize t.extract (i + 1) t.size = Q at *
    generalize w'.drewN nq = wq at *
    clear q1 q2 q3 q4
    go_cut [6] (fun lv wx => ∃ l : Bool, lv = .bool l ∧ wq = wx ∧ Hid (l = true ↔ lit (bt t) i))
    case first =>
      by_cases h2 : 2 < i
      · obtain ⟨m, rfl⟩ : ∃ m, i = m + 3 := ⟨i - 3, by omega⟩
        have l0 : 0 < H.size := by omega
        have l2 : m + 2 < H.size := by omega
        have c0 := bt_at l0
        have c2 := bt_at l2
        rw [hHb.out 0 (by omega)] at c0
        rw [hHb.out (m + 2) (by omega)] at c2
        have D : Hid (lit (bt t) (m + 3) ↔ bt t 0 = 91 ∧ bt t (m + 2) = 93) := ⟨fun h => ⟨h.2.1, h.2.2⟩, fun h => ⟨by omega, h.1, h.2⟩⟩
        generalize bt t 0 = x0 at c0 D
        generalize bt t (m + 2) = x2 at c2 D
        by_cases e0 : x0 = 91
        · have p0 : (x0 == 91) = true := beq_iff_eq.2 e0
          by_cases e2 : x2 = 93
          · have p2 : (x2 == 93) = true := beq_iff_eq.2 e2
            have E : Hid (lit (bt t) (m + 3)) := D.out.2 ⟨e0, e2⟩
            clear e0 e2 D
            go_wp2_with fail
            go_meet
            case rel => exact ⟨_, rfl, rfl, iff_yes E.out⟩
          · have p2 : (x2 == 93) = false := beq_eq_false_iff_ne.2 e2
            have E : Hid (¬ lit (bt t) (m + 3)) := (fun h => e2 (D.out.1 h).2)
            clear e0 e2 D
            go_wp2_with fail
            go_meet
            case rel => exact ⟨_, rfl, rfl, iff_no E.out⟩
        · have p0 : (x0 == 91) = false := beq_eq_false_iff_ne.2 e0
          have E : Hid (¬ lit (bt t) (m + 3)) := (fun h => e0 (D.out.1 h).1)
          clear e0 D
          go_wp2_with fail
          go_meet
          case rel => exact ⟨_, rfl, rfl, iff_no E.out⟩
      · have d2 : decide ((2 : Int) < (i : Int)) = false := decide_eq_false (by omega)
        have E : Hid (¬ lit (bt t) i) := (fun h => h2 h.1)
        clear h2
        go_wp2_with fail
        go_meet
        case rel => exact ⟨_, rfl, rfl, iff_no E.out⟩
    case rest =>
      obtain ⟨l, rfl, rfl, HLit⟩ := hcut
      go_upto_if 38 with fail
      go_cut [4] (fun hv wx => ∃ (H' : ByteArray) (o : Nat), hv = .string H' ∧ wq = wx ∧ Hid (∀ k, k < H'.size → bt H' k = bt t (o + k)) ∧ Hid (Part l o H'.size i) ∧ H'.size ≤ i)
      case first =>
        cases l
        case false =>
          have P : Hid (Part false 0 H.size i) := ⟨fun h => absurd h (by decide), fun _ => ⟨rfl, hHs⟩⟩
          have F : Hid (∀ k, k < H.size → bt H k = bt t (0 + k)) := fun k hk => by rw [Nat.zero_add]; exact hHb.out k (by omega)
          go_wp2_with fail
          go_meet
          case rel => exact ⟨H, 0, rfl, rfl, F, P, by omega⟩
        case true =>
          have h2 := (HLit.out.1 rfl).1
          obtain ⟨m, rfl⟩ : ∃ m, i = m + 3 := ⟨i - 3, by omega⟩
          have hs2 : (H.extract 1 (m + 2)).size = m + 1 := by rw [size_cut H (by omega)]; omega
          have P : Hid (Part true 1 (H.extract 1 (m + 2)).size (m + 3)) := ⟨fun _ => ⟨rfl, by omega, by omega⟩, fun h => absurd h (by decide)⟩
          have F : Hid (∀ k, k < (H.extract 1 (m + 2)).size → bt (H.extract 1 (m + 2)) k = bt t (1 + k)) := fun k hk => by rw [bt_cut H (by omega) (by omega)]; exact hHb.out _ (by omega)
          go_wp2_with fail
          go_meet
          case rel => exact ⟨_, 1, rfl, rfl, F, P, by omega⟩
      case rest =>
        obtain ⟨H', o, rfl, rfl, hF, hP, hH'⟩ := hcut
        clear hHb hHs
        go_wp2_with fail
        go_loop [7] (fun jv => ∃ j : Nat, j ≤ H'.size ∧ jv = .int .i64 j ∧ Hid (∀ k, k < j → good l (bt t (o + k)))) (fun jv => H'.size - (intOf jv).toNat)
        case atStart => exact ⟨0, Nat.zero_le _, rfl, fun k hk => absurd hk (by omega)⟩
        case round =>
          obtain ⟨j, hj, rfl, I⟩ := hrel
          by_cases hlt : j < H'.size
          · have hc := bt_at hlt
            rw [hF.out j hlt] at hc
            have hbd := bt_bd t (o + j)
            have BAD : Hid (¬ good l (bt t (o + j)) → ¬ Auth (bt t) t.size) := fun h => bad_host HL.out HLit.out hP.out hlt h
            have GOOD : Hid (good l (bt t (o + j)) → ∀ k, k < j + 1 → good l (bt t (o + k))) := fun h k hk => by
              rcases Nat.lt_or_ge k j with h1 | h1
              · exact I.out k h1
              · rw [show k = j by omega]; exact h
            generalize bt t (o + j) = cv at hc hbd BAD GOOD
            obtain ⟨b0, b255⟩ := hbd
            go_wp2_with fail
            refine (reg_any cv _ b0 b255).mono ?_
            rintro e w2 ⟨⟨b, rfl, hb⟩, rfl⟩
            have HB : Hid (regB cv = b) := by cases b <;> simp_all [Hid]
            clear hb
            cases b
            case true =>
              go_wp2_with fail
              go_round
              case rel => exact ⟨j + 1, by omega, by go_num, GOOD.out (Or.inl HB.out)⟩
              case measure => simp [intOf]; omega
            case false =>
              cases l
              case false =>
                have HA : Hid (¬ Auth (bt t) t.size) := BAD.out (fun h => by
                  rcases h with h | h
                  · rw [HB.out] at h; cases h
                  · exact absurd h.1 (by decide))
                go_wp2_with fail
                go_ret
                exact ⟨⟨false, rfl, iff_no HA.out⟩, hgr.out⟩
              case true =>
                by_cases h58 : cv = 58
                · have p58 : (cv == 58) = true := beq_iff_eq.2 h58
                  have G : Hid (∀ k, k < j + 1 → good true (bt t (o + k))) := GOOD.out (Or.inr ⟨rfl, h58⟩)
                  clear h58
                  go_wp2_with fail
                  go_round
                  case rel => exact ⟨j + 1, by omega, by go_num, G⟩
                  case measure => simp [intOf]; omega
                · have p58 : (cv == 58) = false := beq_eq_false_iff_ne.2 h58
                  have HA : Hid (¬ Auth (bt t) t.size) := BAD.out (fun h => by
                    rcases h with h | h
                    · rw [HB.out] at h; cases h
                    · exact absurd h.2 h58)
                  clear h58
                  go_wp2_with fail
                  go_ret
                  exact ⟨⟨false, rfl, iff_no HA.out⟩, hgr.out⟩
          · have q : decide ((j : Int) < (H'.size : Int)) = false := decide_eq_false (by omega)
            have hjs : Hid (∀ k, k < H'.size → good l (bt t (o + k))) := fun k hk => I.out k (by omega)
            clear I
            go_upto_region 14 with fail
            clear q hlt hj
            go_wp2_with fail
            go_loop [9] (fun jv => ∃ j : Nat, j ≤ Q.size ∧ jv = .int .i64 j ∧ Hid (∀ k, k < j → isD (bt t (i + 1 + k)) = true)) (fun jv => Q.size - (intOf jv).toNat)
            case atStart => exact ⟨0, Nat.zero_le _, rfl, fun k hk => absurd hk (by omega)⟩
            case round =>
              obtain ⟨j, hj, rfl, I⟩ := hrel
              by_cases hlt : j < Q.size
              · have hc := bt_at hlt
                rw [hQb.out j (by omega)] at hc
                have BAD : Hid (¬ isD (bt t (i + 1 + j)) = true → ¬ Auth (bt t) t.size) := fun h => bad_port HL.out (by omega) h
                have GOOD : Hid (isD (bt t (i + 1 + j)) = true → ∀ k, k < j + 1 → isD (bt t (i + 1 + k)) = true) := fun h k hk => by
                  rcases Nat.lt_or_ge k j with h1 | h1
                  · exact I.out k h1
                  · rw [show k = j by omega]; exact h
                generalize bt t (i + 1 + j) = cv at hc BAD GOOD
                by_cases hd : 48 ≤ cv ∧ cv ≤ 57
                · have d1 : decide (cv < 48) = false := decide_eq_false (by omega)
                  have d2 : decide ((57 : Int) < cv) = false := decide_eq_false (by omega)
                  have G : Hid (∀ k, k < j + 1 → isD (bt t (i + 1 + k)) = true) := GOOD.out (decide_eq_true hd)
                  clear hd
                  go_wp2_with fail
                  go_round
                  case rel => exact ⟨j + 1, by omega, by go_num, G⟩
                  case measure => simp [intOf]; omega
                · have HA : Hid (¬ Auth (bt t) t.size) := BAD.out (fun h => hd (of_decide_eq_true h))
                  by_cases h48 : cv < 48
                  · clear hd
                    go_wp2_with fail
                    go_ret
                    exact ⟨⟨false, rfl, iff_no HA.out⟩, hgr.out⟩
                  · have d1 : decide (cv < 48) = false := decide_eq_false h48
                    have d2 : (57 : Int) < cv := by omega
                    clear hd
                    go_wp2_with fail
                    go_ret
                    exact ⟨⟨false, rfl, iff_no HA.out⟩, hgr.out⟩
              · have q : decide ((j : Int) < (Q.size : Int)) = false := decide_eq_false (by omega)
                have AU : Hid (Auth (bt t) t.size ↔ 0 < H'.size ∧ 0 < Q.size) := by
                  rw [hQs]; exact all_good HL.out HLit.out hP.out hjs.out (fun k hk => I.out k (by omega))
                clear I
                go_upto_region 20 with fail
                clear q hlt hj hjs hP hF HLit HL hQb hQs
                go_wp2_with fail
                all_goals
                  go_ret
                  refine ⟨⟨_, rfl, ?_⟩, hgr.out⟩
                  rw [AU.out]
                  first
                    | exact fin_ret H' Q
                    | exact fin_no H' Q ‹_›

end Go.Proofs.Qxb6602685a
