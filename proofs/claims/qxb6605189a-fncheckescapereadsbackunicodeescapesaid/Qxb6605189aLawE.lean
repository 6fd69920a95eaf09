/-
  THE LAW FnCheckEscapeReadsBackUnicodeEscape: its walk.
-/
import Derived.Test.Qxb6605189aWkE
namespace Go.Proofs.Qxb6605189a
open Go.RowKit

theorem bytes8_any (a b : Option Addr) (n cn m cm : Nat) (v : Int) (u : Bool) (w : World) (hn : n ≤ maxLen) (hm : m ≤ maxLen) :
    Calls Try.prog 8 #[.slice a n cn, .int .u16 v, .bool u, .slice b m cm] w fun e w' => (∃ t, e = .returned (.bool t)) ∧ w' = w := by
  unfold maxLen at hn hm
  go_enter Try.func8, Try.ntmps8
  go_wp2
  all_goals
    go_ret
    exact ⟨⟨_, rfl⟩, rfl⟩

theorem hex_snoc {ds : List Int} {c : Int} (h : ∀ x ∈ ds, IsHex x) (hc : IsHex c) : ∀ x ∈ ds ++ [c], IsHex x := by
  intro x hx
  rcases List.mem_append.1 hx with hx | hx
  · exact h x hx
  · simp at hx; subst hx; exact hc

theorem i64_and15 (n : Int) : bits .and .i64 n 15 = n % 16 := by
  have h15 : (BitVec.ofInt 64 15).toNat = 2 ^ 4 - 1 := by decide
  have key : (BitVec.ofInt 64 n &&& BitVec.ofInt 64 15).toNat = (n % ((2 ^ 64 : Nat) : Int)).toNat % 2 ^ 4 := by
    rw [BitVec.toNat_and, BitVec.toNat_ofInt, h15, Nat.and_two_pow_sub_one_eq_mod]
  show IntKind.i64.wrap ((BitVec.ofInt 64 n &&& BitVec.ofInt 64 15).toNat : Nat) = n % 16
  rw [key, IntKind.wrap_i64]
  omega

/-- What the written text holds. -/
theorem esc_text (P S ds : List Int) (hd : ds.length = 4) (hh : ∀ c ∈ ds, IsHex c) :
    (P ++ [92, 117] ++ ds ++ S).length = P.length + 6 + S.length ∧ (P ++ [92, 117] ++ ds ++ S).getD (P.length + 1) 0 = 117 ∧ ∀ j, j < 4 → IsHex ((P ++ [92, 117] ++ ds ++ S).getD (P.length + 2 + j) 0) := by
  refine ⟨by simp; omega, ?_, fun j hj => ?_⟩
  · simp [List.getD]
  · have h1 : (P ++ [92, 117] ++ ds ++ S).getD (P.length + 2 + j) 0 = ds.getD j 0 := by
      have hl : (P ++ [92, 117]).length = P.length + 2 := by simp
      simp only [List.getD]
      rw [List.append_assoc (P ++ [92, 117]), List.getElem?_append_right (by omega), hl, show P.length + 2 + j - (P.length + 2) = j by omega, List.getElem?_append_left (by omega)]
    rw [h1]
    have : ds.getD j 0 = ds[j]'(by omega) := by simp [List.getD, show j < ds.length by omega]
    rw [this]
    exact hh _ (List.getElem_mem _)

set_option maxHeartbeats 2000000 in
set_option maxRecDepth 100000 in
theorem law_esc (a0 a3 : Option Addr) (n0 cap0 n3 cap3 : Nat) (v : Int) (u : Bool) (w : World) (h0 : BCame w a0 n0 cap0) (h3 : BCame w a3 n3 cap3) (hv0 : 0 ≤ v) (hv1 : v ≤ 65535) :
    Calls Try.prog 3 #[.slice a0 n0 cap0, .int .u16 v, .bool u, .slice a3 n3 cap3] w fun e w' => e = .returned (.bool true) ∧ Below w.heap.size w w' := by
  have m0 : n0 ≤ maxLen := Nat.le_trans h0.1 h0.2.1
  have m3 : n3 ≤ maxLen := Nat.le_trans h3.1 h3.2.1
  have C0 : Hid (BCame w a0 n0 cap0) := h0
  have C3 : Hid (BCame w a3 n3 cap3) := h3
  clear h0 h3
  go_enter Try.func3, Try.ntmps3
  go_wp2_with fail
  refine (bytes8_any a0 a3 n0 cap0 n3 cap3 v u _ m0 m3).mono ?_
  rintro e w' ⟨⟨t, rfl⟩, rfl⟩
  cases t
  case false =>
    go_wp2_with fail
    go_ret
    exact ⟨rfl, Below.refl _ _⟩
  by_cases hb0 : 524288 < n0
  · have : (524288 : Int) < n0 := by omega
    go_wp2_with fail
    go_ret
    exact ⟨rfl, Below.refl _ _⟩
  have d0 : decide ((524288 : Int) < n0) = false := decide_eq_false (by omega)
  by_cases hb3 : 524288 < n3
  · have : (524288 : Int) < n3 := by omega
    go_wp2_with fail
    go_ret
    exact ⟨rfl, Below.refl _ _⟩
  have d3 : decide ((524288 : Int) < n3) = false := decide_eq_false (by omega)
  obtain ⟨k1, k2, nil0, P, rfl, rP, sP⟩ := C0.out
  obtain ⟨k3, k4, nil3, S, rfl, rS, sS⟩ := C3.out
  have sP := sP (by omega)
  have sS := sS (by omega)
  clear C0 C3
  have hmk : ∀ w, (Instr.makeSlice 22 (.int .i64 0) (.int .i64 ((P.length : Int) + 6 + S.length))).run Try.prog w = .ok (.slice (some ⟨w.heap.size, 0, none⟩) 0 (P.length + 6 + S.length)) (w.alloc (.cells (madeCells #[.int .u8 0] (P.length + 6 + S.length)) 5)) := fun w => by
    have := run_makeB (P.length + 6 + S.length) (by omega) w
    simpa using this
  have o0 := own_made w' (P.length + 6 + S.length) (by simp only [maxLen]; omega)
  go_upto_region 7 with fail
  go_upto_region 8 with (at_builtin; refine appB _ rfl _ _ rfl w'.heap.size _ [] rfl (by exact o0) a0 P.length cap0 P rfl rfl (by exact sP.alloc _) nil0 (by simp) (by simp) ?_; intro v1 w1 o1 b1)
  have b1' : Below w'.heap.size w' w1 := ((Below.refl _ _).alloc (Nat.le_refl _) _).trans b1
  have hs1 := b1'.size
  rw [List.nil_append] at o1
  clear b1 o0
  go_upto_region 9 with (at_builtin; refine appB _ rfl _ _ rfl w'.heap.size _ P rfl (by exact o1.alloc _) _ 2 2 [92, 117] rfl rfl (by exact bis_new _ _ (by simp)) (by simp) (by omega) (by simp; omega) ?_; intro v2 w2 o2 b2)
  have b2' : Below w'.heap.size w' w2 := (b1'.alloc hs1 _).trans b2
  clear b2 o1 b1' hs1
  go_wp2_with fail
  go_loopw [10, 11] (fun tv sv wr => ∃ (k : Nat) (ds : List Int), k ≤ 4 ∧ sv = .int .i64 (12 - 4 * (k : Int)) ∧ ds.length = k ∧ (∀ c ∈ ds, IsHex c) ∧ BOwn wr w'.heap.size tv (P ++ [92, 117] ++ ds) ∧ Below w'.heap.size w' wr) (fun _ sv _ => (intOf sv + 4).toNat)
  case atStart => exact ⟨0, [], by omega, rfl, rfl, by simp, by rw [List.append_nil]; exact o2, b2'⟩
  case round =>
    obtain ⟨k, ds, hk, rfl, hdl, hdh, ho, hb⟩ := hrel
    have hs := hb.size
    by_cases hlt : k < 4
    · have hol : (P ++ [92, 117] ++ ds).length ≤ 600000 := by simp; omega
      have HD : Hid (ds.length = k ∧ ∀ c ∈ ds, IsHex c) := ⟨hdl, hdh⟩
      clear hdl hdh
      rcases (show k = 0 ∨ k = 1 ∨ k = 2 ∨ k = 3 by omega) with rfl | rfl | rfl | rfl
      · go_wp2_with fail
        refine (hex_any _ u _ (by rw [i64_and15]; omega) (by rw [i64_and15]; omega)).mono ?_
        rintro e w3 ⟨⟨cv, rfl, hcv⟩, rfl⟩
        go_wp2_with (at_builtin; refine appB _ rfl _ _ rfl w'.heap.size _ (P ++ [92, 117] ++ ds) rfl (by exact ho.alloc _) _ 1 1 [cv] rfl rfl (by exact bis_new _ _ (by simp)) (by simp) (by omega) (by simp; omega) ?_; intro v4 w4 o4 b4)
        go_roundw
        case rel => exact ⟨1, ds ++ [cv], by omega, rfl, by rw [List.length_append, HD.out.1]; rfl, hex_snoc HD.out.2 hcv, by rw [← List.append_assoc]; exact o4, (hb.alloc hs _).trans b4⟩
        case measure => simp [intOf]
      · go_wp2_with fail
        refine (hex_any _ u _ (by rw [i64_and15]; omega) (by rw [i64_and15]; omega)).mono ?_
        rintro e w3 ⟨⟨cv, rfl, hcv⟩, rfl⟩
        go_wp2_with (at_builtin; refine appB _ rfl _ _ rfl w'.heap.size _ (P ++ [92, 117] ++ ds) rfl (by exact ho.alloc _) _ 1 1 [cv] rfl rfl (by exact bis_new _ _ (by simp)) (by simp) (by omega) (by simp; omega) ?_; intro v4 w4 o4 b4)
        go_roundw
        case rel => exact ⟨2, ds ++ [cv], by omega, rfl, by rw [List.length_append, HD.out.1]; rfl, hex_snoc HD.out.2 hcv, by rw [← List.append_assoc]; exact o4, (hb.alloc hs _).trans b4⟩
        case measure => simp [intOf]
      · go_wp2_with fail
        refine (hex_any _ u _ (by rw [i64_and15]; omega) (by rw [i64_and15]; omega)).mono ?_
        rintro e w3 ⟨⟨cv, rfl, hcv⟩, rfl⟩
        go_wp2_with (at_builtin; refine appB _ rfl _ _ rfl w'.heap.size _ (P ++ [92, 117] ++ ds) rfl (by exact ho.alloc _) _ 1 1 [cv] rfl rfl (by exact bis_new _ _ (by simp)) (by simp) (by omega) (by simp; omega) ?_; intro v4 w4 o4 b4)
        go_roundw
        case rel => exact ⟨3, ds ++ [cv], by omega, rfl, by rw [List.length_append, HD.out.1]; rfl, hex_snoc HD.out.2 hcv, by rw [← List.append_assoc]; exact o4, (hb.alloc hs _).trans b4⟩
        case measure => simp [intOf]
      · go_wp2_with fail
        refine (hex_any _ u _ (by rw [i64_and15]; omega) (by rw [i64_and15]; omega)).mono ?_
        rintro e w3 ⟨⟨cv, rfl, hcv⟩, rfl⟩
        go_wp2_with (at_builtin; refine appB _ rfl _ _ rfl w'.heap.size _ (P ++ [92, 117] ++ ds) rfl (by exact ho.alloc _) _ 1 1 [cv] rfl rfl (by exact bis_new _ _ (by simp)) (by simp) (by omega) (by simp; omega) ?_; intro v4 w4 o4 b4)
        go_roundw
        case rel => exact ⟨4, ds ++ [cv], by omega, rfl, by rw [List.length_append, HD.out.1]; rfl, hex_snoc HD.out.2 hcv, by rw [← List.append_assoc]; exact o4, (hb.alloc hs _).trans b4⟩
        case measure => simp [intOf]
    · have hk4 : k = 4 := by omega
      subst hk4
      have hol : (P ++ [92, 117] ++ ds).length ≤ 600000 := by simp; omega
      have ET := esc_text P S ds hdl hdh
      have HT : Hid _ := ET
      clear ET hdl hdh
      go_upto_region 14 with (at_builtin; refine appB _ rfl _ _ rfl w'.heap.size _ (P ++ [92, 117] ++ ds) rfl (by exact ho) a3 S.length cap3 S rfl rfl (by exact sS.below hb) nil3 (by omega) (by omega) ?_; intro v5 w5 o5 b5)
      have HB : Hid (Below w'.heap.size w' w5) := hb.trans b5
      clear b5 hb ho hs hol
      generalize P ++ [92, 117] ++ ds ++ S = T at o5 HT
      obtain ⟨hTl, hTu, hTh⟩ := HT.out
      obtain ⟨aT, capT, rfl, hcT, hcm, hT⟩ := o5.slice (by omega)
      obtain ⟨b, off, rfl, hL⟩ := hT.at (show 0 < T.length by omega)
      clear HT o5 hT
      have hTn : (P.length : Int) + 5 ≤ capT := by omega
      have HL : Hid (BLies w5 b off T ∧ T.getD (P.length + 1) 0 = 117 ∧ (∀ j, j < 4 → IsHex (T.getD (P.length + 2 + j) 0)) ∧ T.length = P.length + 6 + S.length) := ⟨hL, hTu, hTh, hTl⟩
      have hcm' : capT ≤ 9223372036854775807 := hcm
      clear hL hTu hTh hTl
      go_wp2_with fail
      refine (zesc_yes b off T.length capT P.length T _ (by exact HL.out.1) rfl hcT (by have := HL.out.2.2.2; omega) (by have := HL.out.2.2.2; omega) hcm HL.out.2.1 HL.out.2.2.1).mono ?_
      rintro e w6 ⟨rfl, rfl⟩
      go_wp2_with fail
      refine (zesc_cut b off (P.length + 5) capT P.length (T.take (P.length + 5)) _ (by exact HL.out.1.take _) (by have := HL.out.2.2.2; simp; omega) rfl (by omega) (by have := HL.out.2.1; simpa [List.getD] using this)).mono ?_
      rintro e w7 ⟨rfl, rfl⟩
      go_wp2_with fail
      go_ret
      exact ⟨rfl, HB.out⟩

end Go.Proofs.Qxb6605189a
