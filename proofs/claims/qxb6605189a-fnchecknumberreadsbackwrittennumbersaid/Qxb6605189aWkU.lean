/-
  WALKS: appendUint64, appendInt64.
-/
import Derived.Test.Qxb6605189aMem
import Derived.Test.Qxb6605189aWPlain
namespace Go.Proofs.Qxb6605189a
open Go.RowKit

theorem BOwn.below {w w' : World} {B : Nat} {v : Value} {O : List Int} (h : BOwn w B v O) (hb : Below w.heap.size w w') : BOwn w' B v O := by
  obtain ⟨h1, h2⟩ := h
  refine ⟨h1, ?_⟩
  rcases h2 with h2 | ⟨g, cap, cur, e, hB, hg, r⟩
  · exact Or.inl h2
  · refine Or.inr ⟨g, cap, cur, e, hB, ?_, r⟩
    rw [hb.block g (by obtain ⟨hlt, _⟩ := Array.getElem?_eq_some_iff.1 hg; exact hlt)]
    exact hg

/-- The buffer's last j bytes are ds. -/
def Buf (w : World) (b : Nat) (ds : List Int) : Prop :=
  ∃ f, w.rowIs b 40 20 f ∧ ∀ i, i < ds.length → f (20 - ds.length + i) = .int .u8 (ds.getD i 0)

theorem Buf.cell {w : World} {b : Nat} {ds : List Int} (h : Buf w b ds) {p : Nat} (hp : p < 20) : ∃ v, w.cell? ⟨b, p, none⟩ = some v ∧ w.frozen? ⟨b, p, none⟩ = false := by
  obtain ⟨f, h, _⟩ := h
  exact ⟨_, h.cell hp, h.frozen p⟩

theorem Buf.set {w : World} {b : Nat} {ds : List Int} (h : Buf w b ds) (d : Int) (hl : ds.length < 20) : Buf (w.setCell ⟨b, 20 - (ds.length + 1), none⟩ (.int .u8 d)) b (d :: ds) := by
  obtain ⟨f, h, hf⟩ := h
  refine ⟨_, h.set _ _, fun i hi => ?_⟩
  simp only [List.length_cons] at hi ⊢
  cases i with
  | zero => simp
  | succ i =>
    rw [if_neg (by omega), show 20 - (ds.length + 1) + (i + 1) = 20 - ds.length + i by omega, hf i (by omega)]
    simp

theorem Buf.lies {w : World} {b : Nat} {ds : List Int} (h : Buf w b ds) (hl : ds.length ≤ 20) : BIs w (some ⟨b, 20 - ds.length, none⟩) ds := by
  obtain ⟨f, h, hf⟩ := h
  refine ⟨by omega, fun _ => ⟨b, _, rfl, fun i hi => ?_⟩⟩
  rw [h.cell (by omega), hf i hi]

theorem buf_new (w : World) : Buf (w.alloc (.cells (Array.replicate 20 (.int .u8 0)) 40)) w.heap.size [] :=
  ⟨_, World.rowIs_alloc w (Array.replicate 20 (.int .u8 0)) 40 (fun _ => .int .u8 0) (fun i hi => by simp at hi; simp [hi]), fun i hi => by simp at hi⟩

theorem len40 : Try.prog.arrayLen 40 = 20 := by kernel_rfl
theorem elem40 : Try.prog.elem 40 = 5 := by kernel_rfl
theorem under40 : Try.prog.underlying 40 = some (.array (Try.prog.arrayLen 40) (Try.prog.elem 40)) := by kernel_rfl

/-- buf[q:]. -/
theorem run_cut (b q : Nat) (hq : q < 20) (w : World) : (Instr.sliceAt 40 (.pointer (some ⟨b, 0, none⟩)) (some (.int .i64 q)) none none).run Try.prog w = .ok (.slice (some ⟨b, q, none⟩) (20 - q) (20 - q)) w := by
  obtain ⟨ti, hti, htz, hts, htb⟩ := info5_parts
  have hr := run_sliceAt_array_l w 40 ⟨b, 0, none⟩ under40 .i64 q (by omega) (by rw [len40]; omega)
  rw [hr, len40, elem40]
  simp [sizeOf, typeInfo, hti, hts, slicedAt, Addr.add]
  rw [if_neg (by omega)]
  split
  · subst_vars; rfl
  · rfl

set_option maxHeartbeats 2000000 in
set_option maxRecDepth 100000 in
theorem uint_any (w : World) (B : Nat) (ov : Value) (O : List Int) (own : BOwn w B ov O) (u : Nat) (hu : u ≤ 18446744073709551615) (hl : O.length ≤ 3000000) (hB : B ≤ w.heap.size) :
    Calls Try.prog 16 #[ov, .int .u64 u] w fun e w' => (∃ v ds, e = .returned v ∧ Dec ds ∧ ds.length ≤ 20 ∧ BOwn w' B v (O ++ ds)) ∧ Below B w w' := by
  have hs : Wr 0 u [] := Wr.start hu
  have OW : Hid (BOwn w B ov O) := own
  clear own
  go_enter Try.func16, Try.ntmps16
  go_wp2_with fail
  go_loopw [1, 6] (fun uv pv wr => ∃ (u q : Nat) (ds : List Int), uv = .int .u64 u ∧ pv = .int .i64 ((q : Int) + 1) ∧ Hid (Wr ds.length u ds) ∧ u ≤ 18446744073709551615 ∧ Hid (q + ds.length = 19) ∧ q < 20 ∧ Hid (Buf wr w.heap.size ds) ∧ Hid (Below w.heap.size w wr)) (fun _ pv _ => (intOf pv).toNat)
  case atStart => exact ⟨u, 19, [], rfl, rfl, hs, hu, rfl, by omega, buf_new w, (Below.refl _ _).alloc (Nat.le_refl _) _⟩
  case round =>
    obtain ⟨u, q, ds, rfl, rfl, hw, hu, hqd, hq, hbf, hbl⟩ := hrel
    obtain ⟨cv, hc1, hc2⟩ := hbf.out.cell hq
    by_cases h0 : u / 10 = 0
    · have k0 : ((u : Int) / 10 == 0) = true := beq_iff_eq.2 (by omega)
      have hcut := fun w2 => run_cut w.heap.size q hq w2
      have hxl : Hid (((48 + (u % 10 : Nat) : Int) :: ds).length = 20 - q) := by have := hqd.out; simp [Hid]; omega
      have hbf2 : Buf (wr.setCell ⟨w.heap.size, q, none⟩ (.int .u8 (48 + (u : Int) % 10))) w.heap.size ((48 + (u % 10 : Nat) : Int) :: ds) := by
        have h1 := hbf.out.set (48 + (u : Int) % 10) (by have := hqd.out; omega)
        rw [show 20 - (ds.length + 1) = q by have := hqd.out; omega] at h1
        exact h1
      have hbl2 : Below w.heap.size w (wr.setCell ⟨w.heap.size, q, none⟩ (.int .u8 (48 + (u : Int) % 10))) := hbl.out.setCell (Nat.le_refl _) _
      have own2 : Hid (BOwn (wr.setCell ⟨w.heap.size, q, none⟩ (.int .u8 (48 + (u : Int) % 10))) B ov O) := OW.out.below hbl2
      have src2 : Hid (BIs (wr.setCell ⟨w.heap.size, q, none⟩ (.int .u8 (48 + (u : Int) % 10))) (some ⟨w.heap.size, q, none⟩) ((48 + (u % 10 : Nat) : Int) :: ds)) := by
        have h1 := hbf2.lies (by have := hxl.out; omega)
        rw [show 20 - ((48 + (u % 10 : Nat) : Int) :: ds).length = q by have := hxl.out; omega] at h1
        exact h1
      have dec2 : Hid (Dec ((48 + (u % 10 : Nat) : Int) :: ds)) := hw.out.done h0
      have hB2 : B ≤ (wr.setCell ⟨w.heap.size, q, none⟩ (.int .u8 (48 + (u : Int) % 10))).heap.size := Nat.le_trans hB hbl2.size
      have HBL : Hid (Below w.heap.size w (wr.setCell ⟨w.heap.size, q, none⟩ (.int .u8 (48 + (u : Int) % 10)))) := hbl2
      clear hbf2 hbl2
      generalize ((48 + (u % 10 : Nat) : Int) :: ds) = xs at *
      go_wp2_with (at_builtin; refine appB _ rfl _ _ rfl B _ O rfl (by exact own2.out) _ (20 - q) (20 - q) xs rfl (by exact hxl.out) (by exact src2.out) (by simp) (by omega) (by exact hB2) ?_; intro v' w' o' b')
      go_ret
      exact ⟨⟨v', xs, rfl, dec2.out, by have := hxl.out; omega, o'⟩, (HBL.out.mono hB).trans b'⟩
    · have k0 : ((u : Int) / 10 == 0) = false := beq_eq_false_iff_ne.2 (by omega)
      go_wp2_with fail
      have hm := hw.out.more h0
      have hq1 : 1 ≤ q := by have h1 := hm.lt; have h2 := hqd.out; omega
      refine ⟨⟨u / 10, q - 1, (48 + (u % 10 : Nat) : Int) :: ds, ?_, ?_, ?_, by omega, ?_, by omega, ?_, hbl.out.setCell (Nat.le_refl _) _⟩, ?_⟩
      · simp
      · rw [show ((q - 1 : Nat) : Int) + 1 = q by omega]
      · exact hm
      · have := hqd.out; simp [Hid]; omega
      · have h1 := hbf.out.set (48 + (u : Int) % 10) (by have := hqd.out; omega)
        rw [show 20 - (ds.length + 1) = q by have := hqd.out; omega] at h1
        exact h1
      · simp [intOf]

set_option maxHeartbeats 2000000 in
set_option maxRecDepth 100000 in
theorem int_any (w : World) (B : Nat) (ov : Value) (O : List Int) (own : BOwn w B ov O) (n : Int) (h1 : -9223372036854775808 ≤ n) (h2 : n ≤ 9223372036854775807) (hl : O.length ≤ 2000000) (hB : B ≤ w.heap.size) :
    Calls Try.prog 15 #[ov, .int .i64 n] w fun e w' => (∃ v xs t, e = .returned v ∧ (t = 2 ∨ t = 3) ∧ goes 0 xs t ∧ xs.length ≤ 21 ∧ BOwn w' B v (O ++ xs)) ∧ Below B w w' := by
  by_cases h0 : n < 0
  · go_enter Try.func15, Try.ntmps15
    go_upto_region 3 with (at_builtin; refine appB _ rfl _ _ rfl B _ O rfl (by exact own.alloc _) _ 1 1 [45] rfl rfl (by exact bis_new _ _ (by simp)) (by simp) (by omega) (by simp; omega) ?_; intro v1 w1 o1 b1)
    have b1' : Below B w w1 := ((Below.refl _ _).alloc hB _).trans b1
    have hs1 := b1'.size
    clear b1 own
    have O1 : Hid (BOwn w1 B v1 (O ++ [45])) := o1
    have B1 : Hid (Below B w w1) := b1'
    clear o1 b1'
    go_wp2_with fail
    obtain ⟨k, hk⟩ : ∃ k : Nat, -(n + 1) + 1 = (k : Int) := ⟨(-n).toNat, by omega⟩
    rw [hk]
    refine (uint_any _ B _ (O ++ [45]) O1.out k (by omega) (by simp; omega) (by omega)).mono ?_
    rintro e w2 ⟨⟨v, ds, rfl, hd, hdl, ho⟩, hb⟩
    obtain ⟨t, ht, hg⟩ := dec_int (Or.inr rfl) hd
    have HO : Hid _ := ho
    clear ho
    go_wp2_with fail
    go_ret
    refine ⟨⟨_, [45] ++ ds, t, rfl, ht, goes_append goes_minus hg, by simp; omega, ?_⟩, B1.out.trans hb⟩
    rw [← List.append_assoc]
    exact HO.out
  · obtain ⟨k, rfl⟩ : ∃ k : Nat, n = (k : Int) := ⟨n.toNat, by omega⟩
    have OW : Hid (BOwn w B ov O) := own
    clear own
    go_enter Try.func15, Try.ntmps15
    go_wp2_with fail
    refine (uint_any _ B _ O OW.out k (by omega) (by omega) hB).mono ?_
    rintro e w2 ⟨⟨v, ds, rfl, hd, hdl, ho⟩, hb⟩
    obtain ⟨t, ht, hg⟩ := dec_int (Or.inl rfl) hd
    have HO : Hid _ := ho
    clear ho
    go_wp2_with fail
    go_ret
    exact ⟨⟨_, ds, t, rfl, ht, hg, by omega, HO.out⟩, hb⟩

end Go.Proofs.Qxb6605189a
