/-
  WALK: Tick.
-/
import Derived.Test.Qxb6604789aWk1
import Derived.Test.Qxb6604789aWk6
namespace Go.Proofs.Qxb6604789a
open Go.RowKit

/-- The variable at block x holds the clock v. -/
def Var (w : World) (x : Nat) (v : Value) : Prop := w.heap[x]? = some (.cells #[v] 27 (0, 0))

theorem Var.cell {w : World} {x : Nat} {v : Value} (h : Var w x v) : w.cell? ⟨x, 0, none⟩ = some v := by simp [World.cell?, show w.heap[x]? = _ from h]
theorem Var.frozen {w : World} {x : Nat} {v : Value} (h : Var w x v) : w.frozen? ⟨x, 0, none⟩ = false := by simp [World.frozen?, show w.heap[x]? = _ from h]
theorem Var.lt {w : World} {x : Nat} {v : Value} (h : Var w x v) : x < w.heap.size := (Array.getElem?_eq_some_iff.1 h).1
theorem Var.ne {w : World} {x g : Nat} {v : Value} {l : List (Int × Int)} (h : Var w x v) (hr : Row w 41 g l) : x ≠ g := by
  intro e; subst e
  have := hr.heap
  rw [show w.heap[x]? = _ from h] at this
  simp at this
theorem Var.set {w : World} {x : Nat} {v : Value} (h : Var w x v) (u : Value) : Var (w.setCell ⟨x, 0, none⟩ u) x u := by
  unfold Var at *
  simp [World.setCell, Array.getElem?_modify, h]

theorem Clk.slIs {w : World} {B : Nat} {v : Value} {l : List (Int × Int)} (h : Clk w B v l) (hl : l.length ≤ 1000000) : ∃ a c, v = .slice a l.length c ∧ SlIs w a l := by
  rcases h with ⟨rfl, rfl⟩ | ⟨g, L, rfl, _, hr, _, htk, _⟩
  · exact ⟨none, 0, rfl, by simp, fun h => absurd rfl h⟩
  · exact ⟨_, _, rfl, hl, fun _ => ⟨g, 0, rfl, by have := hr.lies l.length; rwa [htk] at this⟩⟩

theorem wrap_inc (n : Int) : IntKind.u64.wrap (n + 1) = inc n := by rw [IntKind.wrap_u64]; rfl

set_option maxHeartbeats 1000000 in
set_option maxRecDepth 100000 in
theorem tick_found (w : World) (B x : Nat) (g : Nat) (l L : List (Int × Int)) (p : Int) (k : Nat) (hx : Var w x (.slice (some ⟨g, 0, none⟩) l.length L.length)) (hr : Row w 41 g L) (hB : B ≤ g) (hle : l.length ≤ L.length) (htk : L.take l.length = l) (hm : L.length ≤ maxLen)
    (hg : Good l) (hl : l.length ≤ 900000) (hk : Found l p k) (hf : k < l.length ∧ eP l k = p) :
    Calls Try.prog 23 #[.pointer (some ⟨x, 0, none⟩), .int .i64 p] w fun e w' => e = .returned (.tuple #[]) ∧ ∃ v', Var w' x v' ∧ Clk w' B v' (l.set k (p, inc (eN l k))) ∧ Chg (fun j => j = x ∨ j = g) w w' := by
  have c0 := hx.cell
  have hne := hx.ne hr
  have hsl : SlIs w (some ⟨g, 0, none⟩) l := ⟨by omega, fun _ => ⟨g, 0, rfl, by have := hr.lies l.length; rwa [htk] at this⟩⟩
  have n1 := hr.cell1 (i := k) (by omega)
  have z1 := hr.frozen (k * 2 + 1)
  have q0 : (k : Int) < (l.length : Int) := by omega
  have hd : decide (k < l.length ∧ eP l k = p) = true := decide_eq_true hf
  go_enter Try.func23, Try.ntmps23
  go_wp2_with fail
  refine (search_at _ _ _ p _ l k (by exact hsl) hg rfl hk).mono ?_
  rw [hd]
  rintro e w1 ⟨rfl, m, rfl⟩
  go_wp2_with fail
  go_end0
  have hN : eN L k = eN l k := by rw [← htk, eN_take _ _ _ hf.1]
  have hP : eP L k = p := by have := hf.2; rw [← htk, eP_take _ _ _ hf.1] at this; exact this
  have hr2 := Row.putN (hr.of_heap (w' := w.drewN m) rfl) (show k < L.length by omega) (inc (eN l k))
  rw [hP] at hr2
  refine ⟨rfl, .slice (some ⟨g, 0, none⟩) l.length L.length, ?_, clk_mk (l.set k (p, inc (eN l k))) (L.drop l.length) (by rw [wrap_inc, hN]; exact hr2) ?_ hB (by simp) (by simp) hm, ?_⟩
  · show _ = _
    rw [Below.heap_setCell _ _ _ _ hne]
    exact hx
  · have e : L = l ++ L.drop l.length := by conv => lhs; rw [← List.take_append_drop l.length L, htk]
    conv => lhs; rw [e]
    rw [List.set_append_left _ _ hf.1]
  · exact ((Chg.refl _ _).drewN m).setCell (Or.inr rfl) _

set_option maxHeartbeats 1000000 in
set_option maxRecDepth 100000 in
theorem tick_new (w : World) (B x : Nat) (v : Value) (l : List (Int × Int)) (p : Int) (k : Nat) (hx : Var w x v) (hc : Clk w B v l) (hBs : B ≤ w.heap.size)
    (hg : Good l) (hl : l.length ≤ 900000) (hk : Found l p k) (hf : ¬ (k < l.length ∧ eP l k = p)) :
    Calls Try.prog 23 #[.pointer (some ⟨x, 0, none⟩), .int .i64 p] w fun e w' => e = .returned (.tuple #[]) ∧ ∃ v', Var w' x v' ∧ Clk w' B v' (l.take k ++ (p, 1) :: l.drop k) ∧ Chg (fun j => j = x ∨ v.ownBlock = some j) w w' := by
  have c0 := hx.cell
  obtain ⟨a, c, rfl, hsl⟩ := hc.slIs (by omega)
  have hxl := hx.lt
  have hd : decide (k < l.length ∧ eP l k = p) = false := decide_eq_false hf
  go_enter Try.func23, Try.ntmps23
  go_wp2_with fail
  refine (search_at _ _ _ p _ l k (by exact hsl) hg rfl hk).mono ?_
  rw [hd]
  rintro e w1 ⟨rfl, m, rfl⟩
  go_wp2_with fail
  have hx1 : Var ((w.drewN m).alloc (Obj.cells #[Value.int IntKind.i64 p, Value.int IntKind.u64 0] 41)) x (.slice a l.length c) := (Below.heap_alloc (w.drewN m) _ x hxl).trans hx
  have hc1 : Clk ((w.drewN m).alloc (Obj.cells #[Value.int IntKind.i64 p, Value.int IntKind.u64 0] 41)) B (.slice a l.length c) l := by
    rcases hc with ⟨h1, h2⟩ | ⟨g, L, h1, h2, h3, h4⟩
    · exact Or.inl ⟨h1, h2⟩
    · exact Or.inr ⟨g, L, h1, h2, (h3.of_heap (w' := w.drewN m) rfl).alloc _, h4⟩
  have hvb : Row ((w.drewN m).alloc (Obj.cells #[Value.int IntKind.i64 p, Value.int IntKind.u64 0] 41)) 41 w.heap.size [(p, 0)] := Row.of (heap_alloc_new (w.drewN m) _)
  have hob : ∀ j, (Value.slice a l.length c).ownBlock = some j → j < w.heap.size ∧ x ≠ j := by
    intro j hj
    rcases hc with ⟨h1, h2⟩ | ⟨g, L, h1, h2, h3, h4⟩
    · rw [h1] at hj; cases hj
    · rw [h1] at hj
      have : g = j := by simpa [Value.ownBlock] using hj
      subst this
      exact ⟨h3.lt, hx.ne h3⟩
  refine (insert_any _ B _ l k _ p 0 (by exact hc1) hk.1 (by exact hvb) (fun h => absurd (hob _ h).1 (by omega)) (by omega) (by simp; omega)).mono ?_
  rintro e w2 ⟨v', rfl, hcl, hch, hwh⟩
  have hx2 : Var w2 x (.slice a l.length c) := (hch.block x (by simp; omega) (fun h => (hob _ h).2 rfl)).trans hx1
  have hll : (l.take k ++ (p, (0 : Int)) :: l.drop k).length = l.length + 1 := by have := hk.1; simp; omega
  rcases hcl with ⟨_, h2⟩ | ⟨g, L, rfl, hBg, hr, hle, htk, hm⟩
  · rw [h2] at hll; simp at hll
  rw [hll] at hle htk ⊢
  have hkl := hk.1
  have hne := hx2.ne hr
  have hne' : g ≠ x := fun e => hne e.symm
  have hN : eN L k = 0 := by
    rw [← eN_take L (l.length + 1) k (by omega), htk]
    simp [eN, List.getD, hkl]
  have hP : eP L k = p := by
    rw [← eP_take L (l.length + 1) k (by omega), htk]
    simp [eP, List.getD, hkl]
  have n1 := hr.cell1 (i := k) (by omega)
  rw [hN] at n1
  have z1 := hr.frozen (k * 2 + 1)
  have x1 := hx2.cell
  have x2 := hx2.frozen
  have q0 : (k : Int) < (l.length : Int) + 1 := by omega
  have hw1 : w.heap.size < w2.heap.size := by have := hch.size; simp at this; omega
  have HH : Hid (eN L k = 0 ∧ eP L k = p) := ⟨hN, hP⟩
  clear hN hP
  go_wp2_with fail
  go_end0
  have hrx : Row (w2.setCell ⟨x, 0, none⟩ (.slice (some ⟨g, 0, none⟩) (l.length + 1) L.length)) 41 g L := hr.of_block (Below.heap_setCell _ _ _ _ hne')
  have hr2 := hrx.putN (i := k) (by omega) 1
  rw [HH.out.2] at hr2
  refine ⟨rfl, .slice (some ⟨g, 0, none⟩) (l.length + 1) L.length, ?_, clk_mk _ (L.drop (l.length + 1)) hr2 (tick_list l L p 0 k _ hkl rfl htk) hBg (by simp; omega) (by simp) hm, ?_⟩
  · exact (Below.heap_setCell _ _ _ _ hne).trans (hx2.set _)
  · have c1 : Chg (fun j => j = x ∨ (Value.slice a l.length c).ownBlock = some j) w w2 := (((Chg.refl _ w).drewN m).alloc _).trans (hch.mono fun _ _ h => Or.inr h)
    refine (c1.setCell (Or.inl rfl) _).setOr ?_ _
    rcases hwh g rfl with h | h
    · exact Or.inl (Or.inr h)
    · exact Or.inr (by simp at h; show w.heap.size ≤ g; omega)

/-- Tick. -/
theorem tick_any (w : World) (B x : Nat) (v : Value) (l : List (Int × Int)) (p : Int) (k : Nat) (hx : Var w x v) (hc : Clk w B v l) (hBs : B ≤ w.heap.size) (hg : Good l) (hl : l.length ≤ 900000) (hk : Found l p k) :
    Calls Try.prog 23 #[.pointer (some ⟨x, 0, none⟩), .int .i64 p] w fun e w' => e = .returned (.tuple #[]) ∧ ∃ v', Var w' x v' ∧ Clk w' B v' (tickL l p k) ∧ Chg (fun j => j = x ∨ v.ownBlock = some j) w w' := by
  unfold tickL
  by_cases hf : k < l.length ∧ eP l k = p
  · rw [if_pos hf]
    rcases hc with ⟨_, h2⟩ | ⟨g, L, rfl, hBg, hr, hle, htk, hm⟩
    · rw [h2] at hf; simp at hf
    refine (tick_found w B x g l L p k hx hr hBg hle htk hm hg hl hk hf).mono ?_
    rintro e w' ⟨rfl, v', h1, h2, h3⟩
    refine ⟨rfl, v', h1, h2, h3.mono fun j _ h => ?_⟩
    rcases h with h | h
    · exact Or.inl h
    · exact Or.inr (by rw [h]; rfl)
  · rw [if_neg hf]
    exact tick_new w B x v l p k hx hc hBs hg hl hk hf

end Go.Proofs.Qxb6604789a
