/-
  WALK: receiveModel. The leaves of its round are written by program: one for each way in which the least process is found among c's next, m's next and p.
-/
import Derived.Test.Qxb6604789aOps
import Derived.Test.Qxb6604789aPlain3
namespace Go.Proofs.Qxb6604789a
open Go.RowKit

/-- For the measure: 1 while p is still to come. -/
def notYet : Value → Nat | .bool b => if b then 0 else 1 | _ => 0

theorem wrap_inc9 (n : Int) : IntKind.u64.wrap (n + 1) = inc n := by rw [IntKind.wrap_u64]; rfl

theorem info40_parts : ∃ i, Try.prog.info? 40 = some i ∧ i.zero = some (.agg #[.int .i64 0, .int .u64 0]) ∧ i.size = 2 ∧ i.bytes = 16 := by
  obtain ⟨i, hi, hzz⟩ := Option.map_eq_some_iff.1 Try.info40
  simp only [Prod.mk.injEq] at hzz
  exact ⟨i, hi, hzz.1, hzz.2.1, hzz.2.2⟩

/-- An owned row of entries as a slice. -/
theorem owns_slIs {w : World} {B n : Nat} {v : Value} {O : List (Int × Int)} (h : w.ownsRow B 40 2 v n (cellsL O)) (hl : O.length ≤ 1000000) : ∃ a cap, v = .slice a O.length cap ∧ SlIs w a O := by
  obtain ⟨h1, h2⟩ := h
  rw [cellsL_length] at h1
  have hn : n = O.length := by omega
  subst hn
  rcases h2 with ⟨rfl, h3⟩ | ⟨g, cap, cur, rfl, _, hg, _, _, hsz, htk⟩
  · have := List.eq_nil_of_length_eq_zero h3
    subst this
    exact ⟨none, 0, rfl, by simp, fun h => absurd rfl h⟩
  · refine ⟨_, cap, rfl, hl, fun _ => ⟨g, 0, rfl, fun i hi => ?_⟩⟩
    have key : ∀ k, k < O.length * 2 → w.cell? ⟨g, k, none⟩ = some (entF O k) := by
      intro k hk
      have h5 : (cur.toList.take (O.length * 2))[k]? = some (entF O k) := by rw [htk, cellsL_get, if_pos hk]
      rw [List.getElem?_take, if_pos hk] at h5
      simp only [World.cell?, hg]
      simpa using h5
    have k0 := key (i * 2) (by omega)
    have k1 := key (i * 2 + 1) (by omega)
    rw [entF_even] at k0
    rw [entF_odd] at k1
    simp only [Nat.zero_add]
    exact ⟨k0, k1⟩

/-- append of one entry to an owned row. -/
theorem app40 (w : World) {ops : Array Oper} {rest : List Oper} {o : Oper} {a : Act} {Q : Exit → Act → World → Prop} (hgd : o.guard = none) (s x : Operand) (ho : o.op = .call { callee := .builtin .append, args := #[s, x], argTypes := #[22, 22] })
    (B : Nat) (ov : Value) (n : Nat) (O : List (Int × Int)) (hs : a.eval s = ov) (hown : w.ownsRow B 40 2 ov n (cellsL O)) (g : Nat) (q v : Int) (hx : a.eval x = .slice (some ⟨g, 0, none⟩) 1 1) (hcell : Lies w g 0 [(q, v)]) (hn : n ≤ 1000000) (hB : B ≤ w.heap.size)
    (h : ∀ v' w', w'.ownsRow B 40 2 v' (n + 1) (cellsL (O ++ [(q, v)])) → Below B w w' → wpList Try.prog ops Q rest (a.put o.dst v') w') : wpList Try.prog ops Q (o :: rest) a w := by
  obtain ⟨ti, hti, htz, hts, htb⟩ := info40_parts
  refine wpList_append_own w hgd s x 22 ho B 40 ti _ 2 16 Try.underlying22 hti htz hts htb rfl (by omega) ov n (cellsL O) hs hown ⟨g, 0, none⟩ 1 1 (cellsL [(q, v)]) hx rfl hcell.cells (cellsL_one _) (by simp only [maxLen]; omega) (by omega) hB ?_
  intro v' w' h1 h2 _
  refine h v' w' (by rw [cellsL_append]; exact h1) ?_
  exact (Below.refl B w).grown h2 hB (fun k hk => (hown.lt k hk).1)

theorem lies_new (w : World) (q v : Int) : Lies (w.alloc (.cells #[.int .i64 q, .int .u64 v] 40)) w.heap.size 0 [(q, v)] := by
  have := Row.lies (Row.of (l := [(q, v)]) (heap_alloc_new w (.cells #[.int .i64 q, .int .u64 v] 40))) 1
  exact this

theorem own_len {w : World} {B : Nat} {v : Value} {O : List (Int × Int)} {e : Int × Int} (h : w.ownsRow B 40 2 v (O.length + 1) (cellsL (O ++ [e]))) : w.ownsRow B 40 2 v (O ++ [e]).length (cellsL (O ++ [e])) := by
  rw [List.length_append]; exact h

set_option maxRecDepth 100000 in
set_option maxHeartbeats 4000000 in
theorem model_any (a1 a2 : Option Addr) (cap1 cap2 : Nat) (p : Int) (c m : List (Int × Int)) (w : World) (h1 : SlIs w a1 c) (h2 : SlIs w a2 m) (hc : Good c) (hm : Good m) (hcl : c.length ≤ 32768) (hml : m.length ≤ 32768) :
    Calls Try.prog 15 #[.slice a1 c.length cap1, .slice a2 m.length cap2, .int .i64 p] w fun e w' => ∃ a cap G, e = .returned (.slice a G.length cap) ∧ SlIs w' a G ∧ RSpec c m p G ∧ Below w.heap.size w w' := by
  have hmk : ∀ w, (Instr.makeSlice 22 (.int .i64 0) (.int .i64 ((c.length : Int) + m.length + 1))).run Try.prog w = .ok (.slice (some ⟨w.heap.size, 0, none⟩) 0 (c.length + m.length + 1)) (w.alloc (.cells (madeCells #[.int .i64 0, .int .u64 0] ((c.length + m.length + 1) * 2)) 40)) := fun w => by
    have := run_make22 (c.length + m.length + 1) 0 (by omega) (by omega) w
    simpa using this
  go_enter Try.func15, Try.ntmps15
  go_wp2_with fail
  go_loopw [7, 8, 9, 10] (fun ov iv jv dv wr => ∃ (x y : Nat) (dn : Bool) (O : List (Int × Int)), x ≤ c.length ∧ y ≤ m.length ∧ iv = .int .i64 x ∧ jv = .int .i64 y ∧ dv = .bool dn ∧ Below w.heap.size w wr ∧ wr.ownsRow w.heap.size 40 2 ov O.length (cellsL O) ∧ Hid (MInv c m p x y dn O)) (fun _ iv jv dv _ => (c.length - (intOf iv).toNat) + (m.length - (intOf jv).toNat) + notYet dv)
  case atStart =>
    refine ⟨0, 0, false, [], Nat.zero_le _, Nat.zero_le _, rfl, rfl, rfl, (Below.refl _ _).alloc (Nat.le_refl _) _, ?_, MInv.start c m p⟩
    exact World.ownsRow_made w _ _ (Nat.le_refl _) (by simp only [maxLen]; omega) (size_madeCells _ _)
  case round =>
    obtain ⟨x, y, dn, O, hx, hy, rfl, rfl, rfl, hb, hown, I⟩ := hrel
    have g1 := h1.below hb
    have g2 := h2.below hb
    have hbs := hb.size
    have hol : O.length ≤ 65537 := by have := I.out.len; split at this <;> omega
    have OW : Hid (wr.ownsRow w.heap.size 40 2 u7 O.length (cellsL O)) := hown
    have HB : Hid (Below w.heap.size w wr) := hb
    clear hown hb h1 h2
    have HG1 : Hid (SlIs wr a1 c) := g1
    have HG2 : Hid (SlIs wr a2 m) := g2
    clear g1 g2
    by_cases hxl : x < c.length
    · skip
      obtain ⟨b1, o1, rfl, hl1⟩ := HG1.out.at hxl
      obtain ⟨c0, c1⟩ := hl1 x hxl
      have hn1 : (0 : Int) < eN c x := by rw [eN_get hxl]; exact hc.2 _ (List.getElem_mem hxl)
      have hxd : decide (x < c.length) = true := decide_eq_true hxl
      by_cases hyl : y < m.length
      · skip
        obtain ⟨b2, o2, rfl, hl2⟩ := HG2.out.at hyl
        obtain ⟨m0, m1⟩ := hl2 y hyl
        have hn2 : (0 : Int) < eN m y := by rw [eN_get hyl]; exact hm.2 _ (List.getElem_mem hyl)
        have hyd : decide (y < m.length) = true := decide_eq_true hyl
        cases dn
        case false =>
          by_cases hlt : eP m y < eP c x
          · skip
            by_cases hpq : p < eP m y
            · skip
              -- cm-:p
              have bc : (eP c x == p) = false := beq_eq_false_iff_ne.2 (by omega)
              have bm : (eP m y == p) = false := beq_eq_false_iff_ne.2 (by omega)
              go_wp2_with (at_builtin; refine app40 _ rfl _ _ rfl w.heap.size _ _ O rfl (by exact OW.out.alloc _) _ _ _ rfl (by exact lies_new _ _ _) (by omega) (by simp; omega) ?_; intro v' w' hown' hb')
              go_roundw
              case rel => exact ⟨x, y, true, _, by omega, by omega, by first | rfl | go_num, by first | rfl | go_num, rfl, (HB.out.alloc hbs _).trans hb', own_len hown', MInv.step hc hm I.out (Or.inr ⟨rfl, fun h => by omega, rfl⟩) (Or.inr ⟨rfl, fun h => by omega, rfl⟩) (Or.inl ⟨rfl, rfl, by omega, by first | omega | (rw [wrap_inc9]; congr 1; omega) | decide⟩) (Or.inr (Or.inr ⟨rfl, rfl⟩))⟩
              case measure => simp [intOf, notYet] <;> omega
            · by_cases hpe : eP m y = p
              · skip
                -- cm-:mp
                have bc : (eP c x == eP m y) = false := beq_eq_false_iff_ne.2 (by omega)
                have bp : (eP m y == p) = true := beq_iff_eq.2 (by omega)
                go_wp2_with (at_builtin; refine app40 _ rfl _ _ rfl w.heap.size _ _ O rfl (by exact OW.out.alloc _) _ _ _ rfl (by exact lies_new _ _ _) (by omega) (by simp; omega) ?_; intro v' w' hown' hb')
                go_roundw
                case rel => exact ⟨x, y + 1, true, _, by omega, by omega, by first | rfl | go_num, by first | rfl | go_num, rfl, (HB.out.alloc hbs _).trans hb', own_len hown', MInv.step hc hm I.out (Or.inr ⟨rfl, fun h => by omega, rfl⟩) (Or.inl ⟨rfl, hyl, by omega, rfl⟩) (Or.inl ⟨rfl, rfl, by omega, by first | omega | (rw [wrap_inc9]; congr 1; omega) | decide⟩) (Or.inr (Or.inl rfl))⟩
                case measure => simp [intOf, notYet] <;> omega
              · skip
                -- cm-:m
                have bc : (eP c x == eP m y) = false := beq_eq_false_iff_ne.2 (by omega)
                have bp : (eP m y == p) = false := beq_eq_false_iff_ne.2 (by omega)
                go_wp2_with (at_builtin; refine app40 _ rfl _ _ rfl w.heap.size _ _ O rfl (by exact OW.out.alloc _) _ _ _ rfl (by exact lies_new _ _ _) (by omega) (by simp; omega) ?_; intro v' w' hown' hb')
                go_roundw
                case rel => exact ⟨x, y + 1, false, _, by omega, by omega, by first | rfl | go_num, by first | rfl | go_num, rfl, (HB.out.alloc hbs _).trans hb', own_len hown', MInv.step hc hm I.out (Or.inr ⟨rfl, fun h => by omega, rfl⟩) (Or.inl ⟨rfl, hyl, by omega, rfl⟩) (Or.inr ⟨rfl, (fun h => by first | omega | cases h), by first | omega | (rw [wrap_inc9]; congr 1; omega) | decide⟩) (Or.inr (Or.inl rfl))⟩
                case measure => simp [intOf, notYet] <;> omega
          · by_cases heq : eP m y = eP c x
            · skip
              by_cases hpq : p < eP c x
              · skip
                -- cm-:p
                have bc : (eP c x == p) = false := beq_eq_false_iff_ne.2 (by omega)
                have bm : (eP m y == p) = false := beq_eq_false_iff_ne.2 (by omega)
                go_wp2_with (at_builtin; refine app40 _ rfl _ _ rfl w.heap.size _ _ O rfl (by exact OW.out.alloc _) _ _ _ rfl (by exact lies_new _ _ _) (by omega) (by simp; omega) ?_; intro v' w' hown' hb')
                go_roundw
                case rel => exact ⟨x, y, true, _, by omega, by omega, by first | rfl | go_num, by first | rfl | go_num, rfl, (HB.out.alloc hbs _).trans hb', own_len hown', MInv.step hc hm I.out (Or.inr ⟨rfl, fun h => by omega, rfl⟩) (Or.inr ⟨rfl, fun h => by omega, rfl⟩) (Or.inl ⟨rfl, rfl, by omega, by first | omega | (rw [wrap_inc9]; congr 1; omega) | decide⟩) (Or.inr (Or.inr ⟨rfl, rfl⟩))⟩
                case measure => simp [intOf, notYet] <;> omega
              · by_cases hpe : eP c x = p
                · skip
                  by_cases hnn : eN c x < eN m y
                  · skip
                    have bm : (eP m y == eP c x) = true := beq_iff_eq.2 (by omega)
                    have bp : (eP c x == p) = true := beq_iff_eq.2 (by omega)
                    go_wp2_with (at_builtin; refine app40 _ rfl _ _ rfl w.heap.size _ _ O rfl (by exact OW.out.alloc _) _ _ _ rfl (by exact lies_new _ _ _) (by omega) (by simp; omega) ?_; intro v' w' hown' hb')
                    go_roundw
                    case rel => exact ⟨x + 1, y + 1, true, _, by omega, by omega, by first | rfl | go_num, by first | rfl | go_num, rfl, (HB.out.alloc hbs _).trans hb', own_len hown', MInv.step hc hm I.out (Or.inl ⟨rfl, hxl, by omega, rfl⟩) (Or.inl ⟨rfl, hyl, by omega, rfl⟩) (Or.inl ⟨rfl, rfl, by omega, by first | omega | (rw [wrap_inc9]; congr 1; omega) | decide⟩) (Or.inl rfl)⟩
                    case measure => simp [intOf, notYet] <;> omega
                  · skip
                    have bm : (eP m y == eP c x) = true := beq_iff_eq.2 (by omega)
                    have bp : (eP c x == p) = true := beq_iff_eq.2 (by omega)
                    go_wp2_with (at_builtin; refine app40 _ rfl _ _ rfl w.heap.size _ _ O rfl (by exact OW.out.alloc _) _ _ _ rfl (by exact lies_new _ _ _) (by omega) (by simp; omega) ?_; intro v' w' hown' hb')
                    go_roundw
                    case rel => exact ⟨x + 1, y + 1, true, _, by omega, by omega, by first | rfl | go_num, by first | rfl | go_num, rfl, (HB.out.alloc hbs _).trans hb', own_len hown', MInv.step hc hm I.out (Or.inl ⟨rfl, hxl, by omega, rfl⟩) (Or.inl ⟨rfl, hyl, by omega, rfl⟩) (Or.inl ⟨rfl, rfl, by omega, by first | omega | (rw [wrap_inc9]; congr 1; omega) | decide⟩) (Or.inl rfl)⟩
                    case measure => simp [intOf, notYet] <;> omega
                · skip
                  by_cases hnn : eN c x < eN m y
                  · skip
                    have bm : (eP m y == eP c x) = true := beq_iff_eq.2 (by omega)
                    have bp : (eP c x == p) = false := beq_eq_false_iff_ne.2 (by omega)
                    go_wp2_with (at_builtin; refine app40 _ rfl _ _ rfl w.heap.size _ _ O rfl (by exact OW.out.alloc _) _ _ _ rfl (by exact lies_new _ _ _) (by omega) (by simp; omega) ?_; intro v' w' hown' hb')
                    go_roundw
                    case rel => exact ⟨x + 1, y + 1, false, _, by omega, by omega, by first | rfl | go_num, by first | rfl | go_num, rfl, (HB.out.alloc hbs _).trans hb', own_len hown', MInv.step hc hm I.out (Or.inl ⟨rfl, hxl, by omega, rfl⟩) (Or.inl ⟨rfl, hyl, by omega, rfl⟩) (Or.inr ⟨rfl, (fun h => by first | omega | cases h), by first | omega | (rw [wrap_inc9]; congr 1; omega) | decide⟩) (Or.inl rfl)⟩
                    case measure => simp [intOf, notYet] <;> omega
                  · skip
                    have bm : (eP m y == eP c x) = true := beq_iff_eq.2 (by omega)
                    have bp : (eP c x == p) = false := beq_eq_false_iff_ne.2 (by omega)
                    go_wp2_with (at_builtin; refine app40 _ rfl _ _ rfl w.heap.size _ _ O rfl (by exact OW.out.alloc _) _ _ _ rfl (by exact lies_new _ _ _) (by omega) (by simp; omega) ?_; intro v' w' hown' hb')
                    go_roundw
                    case rel => exact ⟨x + 1, y + 1, false, _, by omega, by omega, by first | rfl | go_num, by first | rfl | go_num, rfl, (HB.out.alloc hbs _).trans hb', own_len hown', MInv.step hc hm I.out (Or.inl ⟨rfl, hxl, by omega, rfl⟩) (Or.inl ⟨rfl, hyl, by omega, rfl⟩) (Or.inr ⟨rfl, (fun h => by first | omega | cases h), by first | omega | (rw [wrap_inc9]; congr 1; omega) | decide⟩) (Or.inl rfl)⟩
                    case measure => simp [intOf, notYet] <;> omega
            · skip
              by_cases hpq : p < eP c x
              · skip
                -- cm-:p
                have bc : (eP c x == p) = false := beq_eq_false_iff_ne.2 (by omega)
                have bm : (eP m y == p) = false := beq_eq_false_iff_ne.2 (by omega)
                go_wp2_with (at_builtin; refine app40 _ rfl _ _ rfl w.heap.size _ _ O rfl (by exact OW.out.alloc _) _ _ _ rfl (by exact lies_new _ _ _) (by omega) (by simp; omega) ?_; intro v' w' hown' hb')
                go_roundw
                case rel => exact ⟨x, y, true, _, by omega, by omega, by first | rfl | go_num, by first | rfl | go_num, rfl, (HB.out.alloc hbs _).trans hb', own_len hown', MInv.step hc hm I.out (Or.inr ⟨rfl, fun h => by omega, rfl⟩) (Or.inr ⟨rfl, fun h => by omega, rfl⟩) (Or.inl ⟨rfl, rfl, by omega, by first | omega | (rw [wrap_inc9]; congr 1; omega) | decide⟩) (Or.inr (Or.inr ⟨rfl, rfl⟩))⟩
                case measure => simp [intOf, notYet] <;> omega
              · by_cases hpe : eP c x = p
                · skip
                  -- cm-:cp
                  have bm : (eP m y == eP c x) = false := beq_eq_false_iff_ne.2 (by omega)
                  have bp : (eP c x == p) = true := beq_iff_eq.2 (by omega)
                  go_wp2_with (at_builtin; refine app40 _ rfl _ _ rfl w.heap.size _ _ O rfl (by exact OW.out.alloc _) _ _ _ rfl (by exact lies_new _ _ _) (by omega) (by simp; omega) ?_; intro v' w' hown' hb')
                  go_roundw
                  case rel => exact ⟨x + 1, y, true, _, by omega, by omega, by first | rfl | go_num, by first | rfl | go_num, rfl, (HB.out.alloc hbs _).trans hb', own_len hown', MInv.step hc hm I.out (Or.inl ⟨rfl, hxl, by omega, rfl⟩) (Or.inr ⟨rfl, fun h => by omega, rfl⟩) (Or.inl ⟨rfl, rfl, by omega, by first | omega | (rw [wrap_inc9]; congr 1; omega) | decide⟩) (Or.inl rfl)⟩
                  case measure => simp [intOf, notYet] <;> omega
                · skip
                  -- cm-:c
                  have bm : (eP m y == eP c x) = false := beq_eq_false_iff_ne.2 (by omega)
                  have bp : (eP c x == p) = false := beq_eq_false_iff_ne.2 (by omega)
                  go_wp2_with (at_builtin; refine app40 _ rfl _ _ rfl w.heap.size _ _ O rfl (by exact OW.out.alloc _) _ _ _ rfl (by exact lies_new _ _ _) (by omega) (by simp; omega) ?_; intro v' w' hown' hb')
                  go_roundw
                  case rel => exact ⟨x + 1, y, false, _, by omega, by omega, by first | rfl | go_num, by first | rfl | go_num, rfl, (HB.out.alloc hbs _).trans hb', own_len hown', MInv.step hc hm I.out (Or.inl ⟨rfl, hxl, by omega, rfl⟩) (Or.inr ⟨rfl, fun h => by omega, rfl⟩) (Or.inr ⟨rfl, (fun h => by first | omega | cases h), by first | omega | (rw [wrap_inc9]; congr 1; omega) | decide⟩) (Or.inl rfl)⟩
                  case measure => simp [intOf, notYet] <;> omega
        case true =>
          by_cases hlt : eP m y < eP c x
          · skip
            -- cmd:m
            have bc : (eP c x == eP m y) = false := beq_eq_false_iff_ne.2 (by omega)
            go_wp2_with (at_builtin; refine app40 _ rfl _ _ rfl w.heap.size _ _ O rfl (by exact OW.out.alloc _) _ _ _ rfl (by exact lies_new _ _ _) (by omega) (by simp; omega) ?_; intro v' w' hown' hb')
            go_roundw
            case rel => exact ⟨x, y + 1, true, _, by omega, by omega, by first | rfl | go_num, by first | rfl | go_num, rfl, (HB.out.alloc hbs _).trans hb', own_len hown', MInv.step hc hm I.out (Or.inr ⟨rfl, fun h => by omega, rfl⟩) (Or.inl ⟨rfl, hyl, by omega, rfl⟩) (Or.inr ⟨rfl, (fun h => by first | omega | cases h), by first | omega | (rw [wrap_inc9]; congr 1; omega) | decide⟩) (Or.inr (Or.inl rfl))⟩
            case measure => simp [intOf, notYet] <;> omega
          · by_cases heq : eP m y = eP c x
            · skip
              by_cases hnn : eN c x < eN m y
              · skip
                have bm : (eP m y == eP c x) = true := beq_iff_eq.2 (by omega)
                go_wp2_with (at_builtin; refine app40 _ rfl _ _ rfl w.heap.size _ _ O rfl (by exact OW.out.alloc _) _ _ _ rfl (by exact lies_new _ _ _) (by omega) (by simp; omega) ?_; intro v' w' hown' hb')
                go_roundw
                case rel => exact ⟨x + 1, y + 1, true, _, by omega, by omega, by first | rfl | go_num, by first | rfl | go_num, rfl, (HB.out.alloc hbs _).trans hb', own_len hown', MInv.step hc hm I.out (Or.inl ⟨rfl, hxl, by omega, rfl⟩) (Or.inl ⟨rfl, hyl, by omega, rfl⟩) (Or.inr ⟨rfl, (fun h => by first | omega | cases h), by first | omega | (rw [wrap_inc9]; congr 1; omega) | decide⟩) (Or.inl rfl)⟩
                case measure => simp [intOf, notYet] <;> omega
              · skip
                have bm : (eP m y == eP c x) = true := beq_iff_eq.2 (by omega)
                go_wp2_with (at_builtin; refine app40 _ rfl _ _ rfl w.heap.size _ _ O rfl (by exact OW.out.alloc _) _ _ _ rfl (by exact lies_new _ _ _) (by omega) (by simp; omega) ?_; intro v' w' hown' hb')
                go_roundw
                case rel => exact ⟨x + 1, y + 1, true, _, by omega, by omega, by first | rfl | go_num, by first | rfl | go_num, rfl, (HB.out.alloc hbs _).trans hb', own_len hown', MInv.step hc hm I.out (Or.inl ⟨rfl, hxl, by omega, rfl⟩) (Or.inl ⟨rfl, hyl, by omega, rfl⟩) (Or.inr ⟨rfl, (fun h => by first | omega | cases h), by first | omega | (rw [wrap_inc9]; congr 1; omega) | decide⟩) (Or.inl rfl)⟩
                case measure => simp [intOf, notYet] <;> omega
            · skip
              -- cmd:c
              have bm : (eP m y == eP c x) = false := beq_eq_false_iff_ne.2 (by omega)
              go_wp2_with (at_builtin; refine app40 _ rfl _ _ rfl w.heap.size _ _ O rfl (by exact OW.out.alloc _) _ _ _ rfl (by exact lies_new _ _ _) (by omega) (by simp; omega) ?_; intro v' w' hown' hb')
              go_roundw
              case rel => exact ⟨x + 1, y, true, _, by omega, by omega, by first | rfl | go_num, by first | rfl | go_num, rfl, (HB.out.alloc hbs _).trans hb', own_len hown', MInv.step hc hm I.out (Or.inl ⟨rfl, hxl, by omega, rfl⟩) (Or.inr ⟨rfl, fun h => by omega, rfl⟩) (Or.inr ⟨rfl, (fun h => by first | omega | cases h), by first | omega | (rw [wrap_inc9]; congr 1; omega) | decide⟩) (Or.inl rfl)⟩
              case measure => simp [intOf, notYet] <;> omega
      · skip
        have hyd : decide (y < m.length) = false := decide_eq_false hyl
        cases dn
        case false =>
          by_cases hpq : p < eP c x
          · skip
            -- c--:p
            have bc : (eP c x == p) = false := beq_eq_false_iff_ne.2 (by omega)
            go_wp2_with (at_builtin; refine app40 _ rfl _ _ rfl w.heap.size _ _ O rfl (by exact OW.out.alloc _) _ _ _ rfl (by exact lies_new _ _ _) (by omega) (by simp; omega) ?_; intro v' w' hown' hb')
            go_roundw
            case rel => exact ⟨x, y, true, _, by omega, by omega, by first | rfl | go_num, by first | rfl | go_num, rfl, (HB.out.alloc hbs _).trans hb', own_len hown', MInv.step hc hm I.out (Or.inr ⟨rfl, fun h => by omega, rfl⟩) (Or.inr ⟨rfl, fun h => by omega, rfl⟩) (Or.inl ⟨rfl, rfl, by omega, by first | omega | (rw [wrap_inc9]; congr 1; omega) | decide⟩) (Or.inr (Or.inr ⟨rfl, rfl⟩))⟩
            case measure => simp [intOf, notYet] <;> omega
          · by_cases hpe : eP c x = p
            · skip
              -- c--:cp
              have bp : (eP c x == p) = true := beq_iff_eq.2 (by omega)
              go_wp2_with (at_builtin; refine app40 _ rfl _ _ rfl w.heap.size _ _ O rfl (by exact OW.out.alloc _) _ _ _ rfl (by exact lies_new _ _ _) (by omega) (by simp; omega) ?_; intro v' w' hown' hb')
              go_roundw
              case rel => exact ⟨x + 1, y, true, _, by omega, by omega, by first | rfl | go_num, by first | rfl | go_num, rfl, (HB.out.alloc hbs _).trans hb', own_len hown', MInv.step hc hm I.out (Or.inl ⟨rfl, hxl, by omega, rfl⟩) (Or.inr ⟨rfl, fun h => by omega, rfl⟩) (Or.inl ⟨rfl, rfl, by omega, by first | omega | (rw [wrap_inc9]; congr 1; omega) | decide⟩) (Or.inl rfl)⟩
              case measure => simp [intOf, notYet] <;> omega
            · skip
              -- c--:c
              have bp : (eP c x == p) = false := beq_eq_false_iff_ne.2 (by omega)
              go_wp2_with (at_builtin; refine app40 _ rfl _ _ rfl w.heap.size _ _ O rfl (by exact OW.out.alloc _) _ _ _ rfl (by exact lies_new _ _ _) (by omega) (by simp; omega) ?_; intro v' w' hown' hb')
              go_roundw
              case rel => exact ⟨x + 1, y, false, _, by omega, by omega, by first | rfl | go_num, by first | rfl | go_num, rfl, (HB.out.alloc hbs _).trans hb', own_len hown', MInv.step hc hm I.out (Or.inl ⟨rfl, hxl, by omega, rfl⟩) (Or.inr ⟨rfl, fun h => by omega, rfl⟩) (Or.inr ⟨rfl, (fun h => by first | omega | cases h), by first | omega | (rw [wrap_inc9]; congr 1; omega) | decide⟩) (Or.inl rfl)⟩
              case measure => simp [intOf, notYet] <;> omega
        case true =>
          -- c-d:c
          go_wp2_with (at_builtin; refine app40 _ rfl _ _ rfl w.heap.size _ _ O rfl (by exact OW.out.alloc _) _ _ _ rfl (by exact lies_new _ _ _) (by omega) (by simp; omega) ?_; intro v' w' hown' hb')
          go_roundw
          case rel => exact ⟨x + 1, y, true, _, by omega, by omega, by first | rfl | go_num, by first | rfl | go_num, rfl, (HB.out.alloc hbs _).trans hb', own_len hown', MInv.step hc hm I.out (Or.inl ⟨rfl, hxl, by omega, rfl⟩) (Or.inr ⟨rfl, fun h => by omega, rfl⟩) (Or.inr ⟨rfl, (fun h => by first | omega | cases h), by first | omega | (rw [wrap_inc9]; congr 1; omega) | decide⟩) (Or.inl rfl)⟩
          case measure => simp [intOf, notYet] <;> omega
    · skip
      have hxd : decide (x < c.length) = false := decide_eq_false hxl
      by_cases hyl : y < m.length
      · skip
        obtain ⟨b2, o2, rfl, hl2⟩ := HG2.out.at hyl
        obtain ⟨m0, m1⟩ := hl2 y hyl
        have hn2 : (0 : Int) < eN m y := by rw [eN_get hyl]; exact hm.2 _ (List.getElem_mem hyl)
        have hyd : decide (y < m.length) = true := decide_eq_true hyl
        cases dn
        case false =>
          by_cases hpq : p < eP m y
          · skip
            -- -m-:p
            have bm : (eP m y == p) = false := beq_eq_false_iff_ne.2 (by omega)
            go_wp2_with (at_builtin; refine app40 _ rfl _ _ rfl w.heap.size _ _ O rfl (by exact OW.out.alloc _) _ _ _ rfl (by exact lies_new _ _ _) (by omega) (by simp; omega) ?_; intro v' w' hown' hb')
            go_roundw
            case rel => exact ⟨x, y, true, _, by omega, by omega, by first | rfl | go_num, by first | rfl | go_num, rfl, (HB.out.alloc hbs _).trans hb', own_len hown', MInv.step hc hm I.out (Or.inr ⟨rfl, fun h => by omega, rfl⟩) (Or.inr ⟨rfl, fun h => by omega, rfl⟩) (Or.inl ⟨rfl, rfl, by omega, by first | omega | (rw [wrap_inc9]; congr 1; omega) | decide⟩) (Or.inr (Or.inr ⟨rfl, rfl⟩))⟩
            case measure => simp [intOf, notYet] <;> omega
          · by_cases hpe : eP m y = p
            · skip
              -- -m-:mp
              have bp : (eP m y == p) = true := beq_iff_eq.2 (by omega)
              go_wp2_with (at_builtin; refine app40 _ rfl _ _ rfl w.heap.size _ _ O rfl (by exact OW.out.alloc _) _ _ _ rfl (by exact lies_new _ _ _) (by omega) (by simp; omega) ?_; intro v' w' hown' hb')
              go_roundw
              case rel => exact ⟨x, y + 1, true, _, by omega, by omega, by first | rfl | go_num, by first | rfl | go_num, rfl, (HB.out.alloc hbs _).trans hb', own_len hown', MInv.step hc hm I.out (Or.inr ⟨rfl, fun h => by omega, rfl⟩) (Or.inl ⟨rfl, hyl, by omega, rfl⟩) (Or.inl ⟨rfl, rfl, by omega, by first | omega | (rw [wrap_inc9]; congr 1; omega) | decide⟩) (Or.inr (Or.inl rfl))⟩
              case measure => simp [intOf, notYet] <;> omega
            · skip
              -- -m-:m
              have bp : (eP m y == p) = false := beq_eq_false_iff_ne.2 (by omega)
              go_wp2_with (at_builtin; refine app40 _ rfl _ _ rfl w.heap.size _ _ O rfl (by exact OW.out.alloc _) _ _ _ rfl (by exact lies_new _ _ _) (by omega) (by simp; omega) ?_; intro v' w' hown' hb')
              go_roundw
              case rel => exact ⟨x, y + 1, false, _, by omega, by omega, by first | rfl | go_num, by first | rfl | go_num, rfl, (HB.out.alloc hbs _).trans hb', own_len hown', MInv.step hc hm I.out (Or.inr ⟨rfl, fun h => by omega, rfl⟩) (Or.inl ⟨rfl, hyl, by omega, rfl⟩) (Or.inr ⟨rfl, (fun h => by first | omega | cases h), by first | omega | (rw [wrap_inc9]; congr 1; omega) | decide⟩) (Or.inr (Or.inl rfl))⟩
              case measure => simp [intOf, notYet] <;> omega
        case true =>
          -- -md:m
          go_wp2_with (at_builtin; refine app40 _ rfl _ _ rfl w.heap.size _ _ O rfl (by exact OW.out.alloc _) _ _ _ rfl (by exact lies_new _ _ _) (by omega) (by simp; omega) ?_; intro v' w' hown' hb')
          go_roundw
          case rel => exact ⟨x, y + 1, true, _, by omega, by omega, by first | rfl | go_num, by first | rfl | go_num, rfl, (HB.out.alloc hbs _).trans hb', own_len hown', MInv.step hc hm I.out (Or.inr ⟨rfl, fun h => by omega, rfl⟩) (Or.inl ⟨rfl, hyl, by omega, rfl⟩) (Or.inr ⟨rfl, (fun h => by first | omega | cases h), by first | omega | (rw [wrap_inc9]; congr 1; omega) | decide⟩) (Or.inr (Or.inl rfl))⟩
          case measure => simp [intOf, notYet] <;> omega
      · skip
        have hyd : decide (y < m.length) = false := decide_eq_false hyl
        cases dn
        case false =>
          -- ---:p
          go_wp2_with (at_builtin; refine app40 _ rfl _ _ rfl w.heap.size _ _ O rfl (by exact OW.out.alloc _) _ _ _ rfl (by exact lies_new _ _ _) (by omega) (by simp; omega) ?_; intro v' w' hown' hb')
          go_roundw
          case rel => exact ⟨x, y, true, _, by omega, by omega, by first | rfl | go_num, by first | rfl | go_num, rfl, (HB.out.alloc hbs _).trans hb', own_len hown', MInv.step hc hm I.out (Or.inr ⟨rfl, fun h => by omega, rfl⟩) (Or.inr ⟨rfl, fun h => by omega, rfl⟩) (Or.inl ⟨rfl, rfl, by omega, by first | omega | (rw [wrap_inc9]; congr 1; omega) | decide⟩) (Or.inr (Or.inr ⟨rfl, rfl⟩))⟩
          case measure => simp [intOf, notYet] <;> omega
        case true =>
          have hxe : x = c.length := by omega
          have hye : y = m.length := by omega
          subst hxe hye
          have hsp := I.out.done
          have HS : Hid (RSpec c m p O) := hsp
          clear hsp
          obtain ⟨a, cap, rfl, hsl⟩ := owns_slIs OW.out (by omega)
          go_wp2_with fail
          go_ret
          exact ⟨a, cap, O, rfl, hsl, HS.out, HB.out⟩

end Go.Proofs.Qxb6604789a
