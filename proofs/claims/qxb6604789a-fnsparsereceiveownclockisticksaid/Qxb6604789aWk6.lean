/-
  WALKS: slices.Grow, slices.Insert at entries.
-/
import Derived.Test.Qxb6604789aOps
import Derived.Deep.RegionLaw
namespace Go.Proofs.Qxb6604789a
open Go.RowKit

set_option maxHeartbeats 1000000 in
set_option maxRecDepth 100000 in
/-- slices.Grow(s, k), no spare room in s: a new row. -/
theorem grow_any (w : World) (base : Option Addr) (n k : Nat) (xs : List (Int × Int)) (h : Base w base n n xs) (h0 : 0 < k) (hb : n + k ≤ 10000000) :
    Calls Try.prog 22 #[.slice base n n, .int .i64 k] w fun e w' => ∃ cap, e = .returned (.slice (some ⟨w.heap.size, 0, none⟩) n cap) ∧ n + k ≤ cap ∧ cap ≤ maxLen ∧
      Row w' 41 w.heap.size (xs ++ List.replicate (cap - n) (0, 0)) ∧ Chg (fun _ => False) w w' ∧ w'.heap.size = w.heap.size + 1 := by
  obtain ⟨cap, W, hrun, hc1, hc2, hr, hch, hsz⟩ := run_zeros_grow w 27 base n n k xs h h0 (by omega) hb
  have hb2 : n ≤ cap := by omega
  have hb3 : cap ≤ 9223372036854775807 := hc2
  rcases h with ⟨rfl, rfl, _, rfl⟩ | ⟨g, rfl, hl, hs⟩
  · go_enter Try.func22, Try.ntmps22
    go_wp2_with (at_builtin; refine Lib.wpList_append_run _ rfl _ _ _ _ rfl _ _ rfl rfl _ _ hrun ?_)
    go_ret
    exact ⟨cap, rfl, by omega, hc2, hr, hch, hsz⟩
  · go_enter Try.func22, Try.ntmps22
    go_wp2_with (at_builtin; refine Lib.wpList_append_run _ rfl _ _ _ _ rfl _ _ rfl rfl _ _ hrun ?_)
    go_ret
    exact ⟨cap, rfl, by omega, hc2, hr, hch, hsz⟩

/-- copy, its run known by an equation: at a plain region's list; at a step of a region that draws. -/
theorem wp_copyE (w : World) {o : Oper} {a : Act} {K : Act → World → Prop} {Q : Exit → Act → World → Prop} (d s : Operand) (t u : TypeId)
    (ho : o.op = .call { callee := .builtin .copy, args := #[d, s], argTypes := #[t, u] }) (vd vs : Value) (hd : a.eval d = vd) (hs : a.eval s = vs) {v' : Value} {w' : World}
    (hr : (Builtin.copy_ #[t, u] o.type #[vd, vs]).run Try.prog w = .ok v' w') (h : K (a.put o.dst v') w') : o.wp Try.prog a w K Q := by
  unfold Oper.wp execOp
  simp only [ho, resolve, invoke, builtin, Sem.run_bind, Sem.run_pure, Result.andThen_ok, List.map_toArray, List.map_cons, List.map_nil, hd, hs, hr]
  exact h

theorem list_copyE (w : World) {ops : Array Oper} {rest : List Oper} {o : Oper} {a : Act} {Q : Exit → Act → World → Prop} (hgd : o.guard = none) (d s : Operand) (t u : TypeId)
    (ho : o.op = .call { callee := .builtin .copy, args := #[d, s], argTypes := #[t, u] }) (vd vs : Value) (hd : a.eval d = vd) (hs : a.eval s = vs) {v' : Value} {w' : World}
    (hr : (Builtin.copy_ #[t, u] o.type #[vd, vs]).run Try.prog w = .ok v' w') (h : wpList Try.prog ops Q rest (a.put o.dst v') w') : wpList Try.prog ops Q (o :: rest) a w :=
  wpList_plain hgd fun _ hK => wp_copyE w d s t u ho vd vs hd hs hr (hK _ _ h)

theorem step_copyE {ops : Array Oper} {o : Oper} {a : Act} {w : World} {K : Act → World → Prop} {Q : Exit → Act → World → Prop} {E : Prop} (hg : o.guard = none) (d s : Operand) (t u : TypeId)
    (ho : o.op = Op.call { callee := Callee.builtin Builtin.copy, args := #[d, s], argTypes := #[t, u] }) (vd vs : Value) (hd : a.eval d = vd) (hs : a.eval s = vs) {v' : Value} {w' : World}
    (hr : (Builtin.copy_ #[t, u] o.type #[vd, vs]).run Try.prog w = .ok v' w') (hK : K (a.put o.dst v') w') :
    if Region.wanted o (yielded ops a.tmps) = true then Oper.wp Try.prog o a w K Q else E := by
  have hw : Region.wanted o (yielded ops a.tmps) = true := by simp [Region.wanted, hg]
  rw [if_pos hw]
  exact wp_copyE w d s t u ho vd vs hd hs hr hK

set_option maxHeartbeats 1000000 in
set_option maxRecDepth 100000 in
/-- slices.Insert at the end, room. -/
theorem ins_end_room (w : World) (g n c vb : Nat) (L : List (Int × Int)) (p q : Int) (h : Row w 41 g L) (hv : Row w 41 vb [(p, q)]) (hl : L.length = c) (hc : n + 1 ≤ c) (hn : n ≤ 1000000) (hcm : c ≤ maxLen) :
    Calls Try.prog 24 #[.slice (some ⟨g, 0, none⟩) n c, .int .i64 n, .slice (some ⟨vb, 0, none⟩) 1 1] w fun e w' =>
      e = .returned (.slice (some ⟨g, 0, none⟩) (n + 1) c) ∧ Row w' 41 g (L.take n ++ [(p, q)] ++ L.drop (n + 1)) ∧ Chg (· = g) w w' := by
  obtain ⟨W, hrun, hr, hch⟩ := run_one_room w 27 g n c vb L p q h (by have := hv.lies 1; exact this) hl hc
  have hcm' : c ≤ 9223372036854775807 := hcm
  go_enter Try.func24, Try.ntmps24
  go_wp2_with (at_builtin; refine Lib.wpList_append_run _ rfl _ _ _ _ rfl _ _ rfl rfl _ _ hrun ?_)
  go_ret
  exact ⟨rfl, hr, hch⟩

set_option maxHeartbeats 1000000 in
set_option maxRecDepth 100000 in
/-- slices.Insert at the end, no room. -/
theorem ins_end_grow (w : World) (base : Option Addr) (n c vb : Nat) (xs : List (Int × Int)) (p q : Int) (h : Base w base n c xs) (hv : Row w 41 vb [(p, q)]) (hc : c < n + 1) (hn : n ≤ 1000000) (hnc : n ≤ c) :
    Calls Try.prog 24 #[.slice base n c, .int .i64 n, .slice (some ⟨vb, 0, none⟩) 1 1] w fun e w' =>
      ∃ cap, e = .returned (.slice (some ⟨w.heap.size, 0, none⟩) (n + 1) cap) ∧ n + 1 ≤ cap ∧ cap ≤ maxLen ∧ Row w' 41 w.heap.size (xs ++ (p, q) :: List.replicate (cap - (n + 1)) (0, 0)) ∧ Chg (fun _ => False) w w' := by
  obtain ⟨cap, W, hrun, h1, h2, hr, hch, _⟩ := run_one_grow w 27 base n c vb xs p q h (by have := hv.lies 1; exact this) hc (by omega)
  rcases h with ⟨rfl, rfl, rfl, rfl⟩ | ⟨g, rfl, hl, hs⟩
  · go_enter Try.func24, Try.ntmps24
    go_wp2_with (at_builtin; refine Lib.wpList_append_run _ rfl _ _ _ _ rfl _ _ rfl rfl _ _ hrun ?_)
    go_ret
    exact ⟨cap, rfl, h1, h2, hr, hch⟩
  · go_enter Try.func24, Try.ntmps24
    go_wp2_with (at_builtin; refine Lib.wpList_append_run _ rfl _ _ _ _ rfl _ _ rfl rfl _ _ hrun ?_)
    go_ret
    exact ⟨cap, rfl, h1, h2, hr, hch⟩

theorem min_first {a b : Nat} (h : a ≤ b) : a = Nat.min a b := by show a = min a b; omega

/-- The two copies into the new row. -/
theorem mid_list (L : List (Int × Int)) (i n cap : Nat) (e : Int × Int) (hi : i < n) (hn : n ≤ L.length) (hc : n + 1 ≤ cap) :
    (((L.take i ++ List.replicate (cap - i) (0, 0)).take i ++ [e] ++ (L.take i ++ List.replicate (cap - i) (0, 0)).drop (i + 1)).take (i + 1) ++ (L.drop i).take (n - i) ++
      ((L.take i ++ List.replicate (cap - i) (0, 0)).take i ++ [e] ++ (L.take i ++ List.replicate (cap - i) (0, 0)).drop (i + 1)).drop (i + 1 + ((L.drop i).take (n - i)).length)) =
    L.take i ++ e :: ((L.take n).drop i ++ List.replicate (cap - (n + 1)) (0, 0)) := by
  have hi' : (L.take i).length = i := by simp; omega
  have h1 : (L.take i ++ List.replicate (cap - i) ((0 : Int), (0 : Int))).take i = L.take i := by rw [List.take_append_of_le_length (by omega), List.take_of_length_le (by omega)]
  have h2 : (L.take i ++ List.replicate (cap - i) ((0 : Int), (0 : Int))).drop (i + 1) = List.replicate (cap - (i + 1)) (0, 0) := by
    rw [List.drop_append, List.drop_eq_nil_of_le (by omega), hi', List.nil_append, List.drop_replicate]; congr 1; omega
  rw [h1, h2]
  have h3 : (L.take i ++ [e] ++ List.replicate (cap - (i + 1)) ((0 : Int), (0 : Int))).take (i + 1) = L.take i ++ [e] := by rw [List.take_append_of_le_length (by simp; omega), List.take_of_length_le (by simp; omega)]
  have h4 : (L.take i ++ [e] ++ List.replicate (cap - (i + 1)) ((0 : Int), (0 : Int))).drop (i + 1 + ((L.drop i).take (n - i)).length) = List.replicate (cap - (n + 1)) (0, 0) := by
    rw [List.drop_append, List.drop_eq_nil_of_le (by simp; omega), List.nil_append, List.drop_replicate]; congr 1; simp; omega
  rw [h3, h4, List.drop_take]
  simp

/-- The two copies in place. -/
theorem room_list (L : List (Int × Int)) (i n : Nat) (e : Int × Int) (hi : i < n) (hn : n + 1 ≤ L.length) :
    (L.take (i + 1) ++ (L.drop i).take (n - i) ++ L.drop (i + 1 + ((L.drop i).take (n - i)).length)).take i ++ [e] ++ (L.take (i + 1) ++ (L.drop i).take (n - i) ++ L.drop (i + 1 + ((L.drop i).take (n - i)).length)).drop (i + [e].length) =
    L.take i ++ e :: ((L.take n).drop i ++ L.drop (n + 1)) := by
  have hi' : (L.take (i + 1)).length = i + 1 := by simp; omega
  have h1 : (L.take (i + 1) ++ (L.drop i).take (n - i) ++ L.drop (i + 1 + ((L.drop i).take (n - i)).length)).take i = L.take i := by
    rw [List.append_assoc, List.take_append_of_le_length (by omega), List.take_take, Nat.min_eq_left (by omega)]
  have h2 : (L.take (i + 1) ++ (L.drop i).take (n - i) ++ L.drop (i + 1 + ((L.drop i).take (n - i)).length)).drop (i + [e].length) = (L.drop i).take (n - i) ++ L.drop (n + 1) := by
    rw [List.append_assoc, List.drop_append, List.drop_eq_nil_of_le (by simp; omega), hi', List.nil_append]
    simp
    congr 1; omega
  rw [h1, h2, List.drop_take]
  simp

set_option maxHeartbeats 1000000 in
set_option maxRecDepth 100000 in
/-- slices.Insert in the middle, no room. -/
theorem ins_mid_grow (w : World) (g n c i vb : Nat) (L : List (Int × Int)) (p q : Int) (h : Row w 41 g L) (hv : Row w 41 vb [(p, q)]) (hl : L.length = c) (hi : i < n) (hc : c < n + 1) (hn : n ≤ 1000000) (hnc : n ≤ c) :
    Calls Try.prog 24 #[.slice (some ⟨g, 0, none⟩) n c, .int .i64 i, .slice (some ⟨vb, 0, none⟩) 1 1] w fun e w' =>
      ∃ cap, e = .returned (.slice (some ⟨w.heap.size, 0, none⟩) (n + 1) cap) ∧ n + 1 ≤ cap ∧ cap ≤ maxLen ∧ Row w' 41 w.heap.size (L.take i ++ (p, q) :: ((L.take n).drop i ++ List.replicate (cap - (n + 1)) (0, 0))) ∧ Chg (fun _ => False) w w' := by
  have hbase : Base w (some ⟨g, 0, none⟩) i c (L.take i) := Or.inr ⟨g, rfl, by simp; omega, h.lies i⟩
  obtain ⟨cap, W1, hrun1, k1, k2, hr1, hch1, hsz1⟩ := run_zeros_grow w 27 (some ⟨g, 0, none⟩) i c (n + 1 - i) (L.take i) hbase (by omega) (by omega) (by omega)
  rw [show i + (n + 1 - i) = n + 1 by omega, show ((n + 1 - i : Nat) : Int) = (n : Int) + 1 - i by omega] at hrun1
  rw [show i + (n + 1 - i) = n + 1 by omega] at k1
  have hvb := hv.lt
  have hg := h.lt
  have hv1 := hch1.row hv (by simp)
  have hg1 := hch1.row h (by simp)
  have hcm : cap ≤ 9223372036854775807 := k2
  obtain ⟨W2, hrun2, hr2, hch2⟩ := run_copy2 W1 26 3 w.heap.size i (n + 1 - i) (cap - i) vb 0 1 1 _ [(p, q)] hr1 (min_first (by simp; omega)) (by have := hv1.lies 1; exact this) (by simp; omega)
  have hg2 := hch2.row hg1 (by omega)
  obtain ⟨W3, hrun3, hr3, hch3⟩ := run_copy2 W2.drew 27 3 w.heap.size (i + 1) (n + 1 - (i + 1)) (cap - (i + 1)) g (i * 2) (n - i) (c - i) _ ((L.drop i).take (n - i)) (hr2.of_heap rfl) (by show _ = min _ _; simp; omega)
    (by have := (hg2.of_heap (w' := W2.drew) rfl).lies L.length; rw [List.take_length] at this; have := this.part i (n - i); simpa using this) (by simp; omega)
  have b1 : ¬ cap = i := by omega
  have b2 : ¬ c = i := by omega
  have b3 : ¬ cap = i + 1 := by omega
  have q0 : (0 : Int) ≤ (i : Int) := by omega
  have q1 : (0 : Int) ≤ (i : Int) + 1 := by omega
  have q2 : (i : Int) + 1 ≤ (n : Int) + 1 := by omega
  have q3 : (i : Int) ≤ (n : Int) := by omega
  have q4 : IntKind.i64.wrap ((i : Int) + 1) = (i : Int) + 1 := by rw [IntKind.wrap_i64]; omega
  have q5 : ((i : Int) + 1).toNat = i + 1 := by omega
  go_enter Try.func24, Try.ntmps24
  go_wp2_with (first
    | (at_builtin; refine Lib.wpList_append_run _ rfl _ _ _ _ rfl _ _ rfl rfl _ _ hrun1 ?_)
    | (at_builtin; refine list_copyE _ rfl _ _ _ _ rfl _ _ rfl rfl hrun2 ?_))
  go_region_law (refine step_copyE rfl _ _ 27 27 rfl _ _ (by simp [Act.eval, Act.put]) (by simp [Act.eval, Act.put]) hrun3 ?_)
  go_wp2
  go_ret
  refine ⟨cap, rfl, k1, k2, ?_, ?_⟩
  · rw [show [(p, q)].length = 1 from rfl, mid_list L i n cap (p, q) hi (by omega) k1] at hr3
    exact hr3
  · have c1 : Chg (· = w.heap.size) w W1 := hch1.mono (fun _ _ hf => hf.elim)
    exact ((c1.trans hch2).drew.trans hch3).mono (fun k hk he => absurd he (by omega))

set_option maxHeartbeats 1000000 in
set_option maxRecDepth 100000 in
/-- slices.Insert in the middle, room: in place. -/
theorem ins_mid_room (w : World) (g n c i vb : Nat) (L : List (Int × Int)) (p q : Int) (h : Row w 41 g L) (hv : Row w 41 vb [(p, q)]) (hne : vb ≠ g) (hl : L.length = c) (hi : i < n) (hc : n + 1 ≤ c) (hn : n ≤ 1000000) (hcm : c ≤ maxLen) :
    Calls Try.prog 24 #[.slice (some ⟨g, 0, none⟩) n c, .int .i64 i, .slice (some ⟨vb, 0, none⟩) 1 1] w fun e w' =>
      e = .returned (.slice (some ⟨g, 0, none⟩) (n + 1) c) ∧ Row w' 41 g (L.take i ++ (p, q) :: ((L.take n).drop i ++ L.drop (n + 1))) ∧ Chg (· = g) w w' := by
  have hcm' : c ≤ 9223372036854775807 := hcm
  have hov := fun lb cb => run_overlaps w vb g ((i + 1) * 2) 1 1 lb cb [(p, q)] L hv h hne (by intro h0; subst h0; simp at hl; omega)
  obtain ⟨W1, hrun1, hr1, hch1⟩ := run_copy2 w.drew 27 3 g (i + 1) (n + 1 - (i + 1)) (c - (i + 1)) g (i * 2) (n + 1 - i) (c - i) L ((L.drop i).take (n - i)) (h.of_heap rfl) (by show _ = min _ _; simp; omega)
    (by have := (h.of_heap (w' := w.drew) rfl).lies L.length; rw [List.take_length] at this; have := this.part i (n - i); simpa using this) (by simp; omega)
  have hv1 := hch1.row (hv.of_heap (w' := w.drew) rfl) hne
  obtain ⟨W2, hrun2, hr2, hch2⟩ := run_copy2 W1 26 3 g i (n + 1 - i) (c - i) vb 0 1 1 _ [(p, q)] hr1 (min_first (by simp; omega)) (by have := hv1.lies 1; exact this) (by simp; omega)
  have b1 : ¬ c = i := by omega
  have b2 : ¬ c = i + 1 := by omega
  have q0 : (0 : Int) ≤ (i : Int) := by omega
  have q1 : (0 : Int) ≤ (i : Int) + 1 := by omega
  have q2 : (i : Int) + 1 ≤ (n : Int) + 1 := by omega
  have q3 : (i : Int) ≤ (n : Int) + 1 := by omega
  have q4 : IntKind.i64.wrap ((i : Int) + 1) = (i : Int) + 1 := by rw [IntKind.wrap_i64]; omega
  have q5 : ((i : Int) + 1).toNat = i + 1 := by omega
  go_enter Try.func24, Try.ntmps24
  go_wp2_with (simp only [hov])
  go_region_law (refine step_copyE rfl _ _ 27 27 rfl _ _ (by simp [Act.eval, Act.put]) (by simp [Act.eval, Act.put]) hrun1 ?_)
  go_wp2_with (at_builtin; refine list_copyE _ rfl _ _ _ _ rfl _ _ rfl rfl hrun2 ?_)
  go_ret
  refine ⟨rfl, ?_, ?_⟩
  · rw [room_list L i n (p, q) hi (by omega)] at hr2
    exact hr2
  · exact ((Chg.refl (· = g) w).drew.trans hch1).trans hch2

/-- A clock of the call's own (its block from B on): nil; or a row whose first entries are l. -/
def Clk (w : World) (B : Nat) (v : Value) (l : List (Int × Int)) : Prop :=
  (v = .slice none 0 0 ∧ l = []) ∨ ∃ g L, v = .slice (some ⟨g, 0, none⟩) l.length L.length ∧ B ≤ g ∧ Row w 41 g L ∧ l.length ≤ L.length ∧ L.take l.length = l ∧ L.length ≤ maxLen

theorem clk_mk {w : World} {B g n c : Nat} (X rest : List (Int × Int)) {L : List (Int × Int)} (hr : Row w 41 g L) (e : L = X ++ rest) (hg : B ≤ g) (hn : n = X.length) (hc : c = L.length) (hm : c ≤ maxLen) : Clk w B (.slice (some ⟨g, 0, none⟩) n c) X := by
  subst hn hc
  refine Or.inr ⟨g, L, rfl, hg, hr, ?_, ?_, hm⟩
  · rw [e]; simp
  · rw [e]; simp

/-- slices.Insert(s, i, e). -/
theorem insert_any (w : World) (B : Nat) (v : Value) (l : List (Int × Int)) (i vb : Nat) (p q : Int) (h : Clk w B v l) (hi : i ≤ l.length) (hv : Row w 41 vb [(p, q)]) (hne : v.ownBlock ≠ some vb) (hl : l.length ≤ 1000000) (hB : B ≤ w.heap.size) :
    Calls Try.prog 24 #[v, .int .i64 i, .slice (some ⟨vb, 0, none⟩) 1 1] w fun e w' => ∃ v', e = .returned v' ∧ Clk w' B v' (l.take i ++ (p, q) :: l.drop i) ∧ Chg (fun k => v.ownBlock = some k) w w' ∧ ∀ j, v'.ownBlock = some j → v.ownBlock = some j ∨ w.heap.size ≤ j := by
  rcases h with ⟨rfl, rfl⟩ | ⟨g, L, rfl, hg, hr, hle, htk, hm⟩
  · have : i = 0 := by simpa using hi
    subst this
    refine (ins_end_grow w none 0 0 vb [] p q (Or.inl ⟨rfl, rfl, rfl, rfl⟩) hv (by omega) (by omega) (by omega)).mono ?_
    rintro e w' ⟨cap, rfl, k1, k2, hr, hch⟩
    exact ⟨_, rfl, clk_mk [(p, q)] _ hr rfl hB rfl (by simp; omega) k2, hch.mono (fun _ _ hf => hf.elim), fun j hj => Or.inr (by simp [Value.ownBlock] at hj; omega)⟩
  · have hnb : vb ≠ g := fun e => hne (by rw [e]; rfl)
    by_cases hin : i = l.length
    · subst hin
      by_cases hroom : l.length + 1 ≤ L.length
      · refine (ins_end_room w g l.length L.length vb L p q hr hv rfl hroom hl hm).mono ?_
        rintro e w' ⟨rfl, hr', hch⟩
        rw [htk] at hr'
        exact ⟨_, rfl, clk_mk _ (L.drop (l.length + 1)) hr' (by simp) hg (by simp) (by simp; omega) hm, hch.mono (fun k _ e => by rw [e]; rfl), fun j hj => Or.inl hj⟩
      · refine (ins_end_grow w (some ⟨g, 0, none⟩) l.length L.length vb l p q (Or.inr ⟨g, rfl, rfl, by have := hr.lies l.length; rwa [htk] at this⟩) hv (by omega) hl hle).mono ?_
        rintro e w' ⟨cap, rfl, k1, k2, hr', hch⟩
        exact ⟨_, rfl, clk_mk _ (List.replicate (cap - (l.length + 1)) (0, 0)) hr' (by simp) hB (by simp) (by simp; omega) k2, hch.mono (fun _ _ hf => hf.elim), fun j hj => Or.inr (by simp [Value.ownBlock] at hj; omega)⟩
    · have hlt : i < l.length := by omega
      have htl : (L.take l.length).drop i = l.drop i := by rw [htk]
      have hti : L.take i = l.take i := by
        conv => rhs; rw [← htk]
        rw [List.take_take, Nat.min_eq_left (by omega)]
      by_cases hroom : l.length + 1 ≤ L.length
      · refine (ins_mid_room w g l.length L.length i vb L p q hr hv hnb rfl hlt hroom hl hm).mono ?_
        rintro e w' ⟨rfl, hr', hch⟩
        rw [htl, hti] at hr'
        exact ⟨_, rfl, clk_mk _ (L.drop (l.length + 1)) hr' (by simp) hg (by simp; omega) (by simp; omega) hm, hch.mono (fun k _ e => by rw [e]; rfl), fun j hj => Or.inl hj⟩
      · refine (ins_mid_grow w g l.length L.length i vb L p q hr hv rfl hlt (by omega) hl hle).mono ?_
        rintro e w' ⟨cap, rfl, k1, k2, hr', hch⟩
        rw [htl, hti] at hr'
        exact ⟨_, rfl, clk_mk _ (List.replicate (cap - (l.length + 1)) (0, 0)) hr' (by simp) hB (by simp; omega) (by simp; omega) k2, hch.mono (fun _ _ hf => hf.elim), fun j hj => Or.inr (by simp [Value.ownBlock] at hj; omega)⟩

end Go.Proofs.Qxb6604789a
