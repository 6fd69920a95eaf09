/-
  THE PLAIN MATHEMATICS of receiveModel's rounds: one forward merge of c, m and {p}.
-/
import Derived.Test.Qxb6604789aPlain2
namespace Go.Proofs.Qxb6604789a

/-- i entries of c and j of m are done with, p too where dn; O is what has been put out. -/
structure MInv (c m : List (Int × Int)) (p : Int) (i j : Nat) (dn : Bool) (O : List (Int × Int)) : Prop where
  hi : i ≤ c.length
  hj : j ≤ m.length
  srt : Srt O
  mem : ∀ e, e ∈ O ↔ (keyIn (c.take i) e.1 ∨ keyIn (m.take j) e.1 ∨ (dn = true ∧ e.1 = p)) ∧ e.2 = val c m p e.1
  lowc : ∀ e ∈ O, i < c.length → e.1 < eP c i
  lowm : ∀ e ∈ O, j < m.length → e.1 < eP m j
  lowp : dn = false → ∀ e ∈ O, e.1 < p
  len : O.length ≤ i + j + (if dn then 1 else 0)

theorem MInv.start (c m : List (Int × Int)) (p : Int) : MInv c m p 0 0 false [] where
  hi := Nat.zero_le _
  hj := Nat.zero_le _
  srt := List.Pairwise.nil
  mem := fun e => by simp [keyIn]
  lowc := by simp
  lowm := by simp
  lowp := by simp
  len := by simp

theorem keyIn_take_succ {c : List (Int × Int)} {i : Nat} (h : i < c.length) (q : Int) : keyIn (c.take (i + 1)) q ↔ keyIn (c.take i) q ∨ q = eP c i := by
  rw [take_succ_eq h]
  constructor
  · rintro ⟨e, he, hq⟩
    rcases List.mem_append.1 he with he | he
    · exact Or.inl ⟨e, he, hq⟩
    · simp at he; subst he; exact Or.inr hq.symm
  · rintro (⟨e, he, hq⟩ | rfl)
    · exact ⟨e, List.mem_append_left _ he, hq⟩
    · exact ⟨(eP c i, eN c i), by simp, rfl⟩

/-- The count for a process that lies at place i, or before it at no place. -/
theorem cnt_at {c : List (Int × Int)} (hc : Good c) {i : Nat} {q : Int} (h : i < c.length) (hq : eP c i = q) : cnt c q = eN c i := by
  subst hq
  rw [eP_get h, eN_get h]
  exact cnt_mem hc.1 (List.getElem_mem h)
theorem cnt_gap {c : List (Int × Int)} (hc : Good c) {i : Nat} {q : Int} (hlow : ∀ e ∈ c.take i, e.1 < q) (hup : i < c.length → q < eP c i) : cnt c q = 0 := by
  refine cnt_not ?_
  rintro ⟨e, he, hq⟩
  rw [← List.take_append_drop i c] at he
  rcases List.mem_append.1 he with he | he
  · have := hlow e he; omega
  · have h1 := mem_drop_le hc he
    have := hup h1.2
    omega

theorem MInv.step {c m : List (Int × Int)} {p : Int} {i j i' j' : Nat} {dn dn' : Bool} {O : List (Int × Int)} {q u1 u2 v : Int} (hc : Good c) (hm : Good m) (h : MInv c m p i j dn O)
    (hI : (i' = i + 1 ∧ i < c.length ∧ eP c i = q ∧ u1 = eN c i) ∨ (i' = i ∧ (i < c.length → q < eP c i) ∧ u1 = 0))
    (hJ : (j' = j + 1 ∧ j < m.length ∧ eP m j = q ∧ u2 = eN m j) ∨ (j' = j ∧ (j < m.length → q < eP m j) ∧ u2 = 0))
    (hD : (dn = false ∧ dn' = true ∧ q = p ∧ v = inc (max u1 u2)) ∨ (dn' = dn ∧ (dn = false → q < p) ∧ v = max u1 u2))
    (hS : i' = i + 1 ∨ j' = j + 1 ∨ (dn = false ∧ dn' = true)) : MInv c m p i' j' dn' (O ++ [(q, v)]) := by
  have hall : ∀ e ∈ O, e.1 < q := by
    intro e he
    rcases hS with hS | hS | hS
    · rcases hI with ⟨_, h1, h2, _⟩ | ⟨h0, _⟩
      · have := h.lowc e he h1; omega
      · omega
    · rcases hJ with ⟨_, h1, h2, _⟩ | ⟨h0, _⟩
      · have := h.lowm e he h1; omega
      · omega
    · rcases hD with ⟨_, _, h2, _⟩ | ⟨h0, _⟩
      · have := h.lowp hS.1 e he; omega
      · rw [hS.1, hS.2] at h0; cases h0
  have hkc : ∀ e ∈ c.take i, e.1 < q := fun e he => hall (e.1, val c m p e.1) ((h.mem (e.1, val c m p e.1)).2 ⟨Or.inl ⟨e, he, rfl⟩, rfl⟩)
  have hkm : ∀ e ∈ m.take j, e.1 < q := fun e he => hall (e.1, val c m p e.1) ((h.mem (e.1, val c m p e.1)).2 ⟨Or.inr (Or.inl ⟨e, he, rfl⟩), rfl⟩)
  have hkp : dn = true → p < q := fun hd => hall _ ((h.mem (p, val c m p p)).2 ⟨Or.inr (Or.inr ⟨hd, rfl⟩), rfl⟩)
  have e1 : cnt c q = u1 := by
    rcases hI with ⟨_, h1, h2, h3⟩ | ⟨_, h1, h3⟩
    · rw [h3]; exact cnt_at hc h1 h2
    · rw [h3]; exact cnt_gap hc hkc h1
  have e2 : cnt m q = u2 := by
    rcases hJ with ⟨_, h1, h2, h3⟩ | ⟨_, h1, h3⟩
    · rw [h3]; exact cnt_at hm h1 h2
    · rw [h3]; exact cnt_gap hm hkm h1
  have hqp : dn' = dn → q ≠ p := by
    intro hd
    rcases hD with ⟨h1, h2, _⟩ | ⟨_, h1, _⟩
    · rw [h1, h2] at hd; cases hd
    · cases dn
      · have := h1 rfl; omega
      · have := hkp rfl; omega
  have ev : v = val c m p q := by
    rw [val, e1, e2]
    rcases hD with ⟨_, _, h2, h3⟩ | ⟨h1, _, h3⟩
    · rw [if_pos h2]; exact h3
    · rw [if_neg (hqp h1)]; exact h3
  have hic : i' ≤ c.length := by rcases hI with ⟨rfl, h1, _⟩ | ⟨rfl, _⟩; · omega
                                 · exact h.hi
  have hjm : j' ≤ m.length := by rcases hJ with ⟨rfl, h1, _⟩ | ⟨rfl, _⟩; · omega
                                 · exact h.hj
  have kc : ∀ r, keyIn (c.take i') r ↔ keyIn (c.take i) r ∨ (i' = i + 1 ∧ r = q) := by
    intro r
    rcases hI with ⟨rfl, h1, h2, _⟩ | ⟨rfl, _⟩
    · rw [keyIn_take_succ h1, h2]; simp
    · simp
  have km : ∀ r, keyIn (m.take j') r ↔ keyIn (m.take j) r ∨ (j' = j + 1 ∧ r = q) := by
    intro r
    rcases hJ with ⟨rfl, h1, h2, _⟩ | ⟨rfl, _⟩
    · rw [keyIn_take_succ h1, h2]; simp
    · simp
  have kp : ∀ r, (dn' = true ∧ r = p) ↔ (dn = true ∧ r = p) ∨ ((dn = false ∧ dn' = true) ∧ r = q) := by
    intro r
    rcases hD with ⟨h1, h2, h3, _⟩ | ⟨h1, _⟩
    · rw [h1, h2, h3]; simp
    · rw [h1]; cases dn <;> simp
  refine ⟨hic, hjm, ?_, fun e => ?_, ?_, ?_, ?_, ?_⟩
  · unfold Srt
    rw [List.pairwise_append]
    exact ⟨h.srt, List.pairwise_singleton _ _, fun a ha b hb => by simp at hb; subst hb; exact hall a ha⟩
  · rw [List.mem_append, h.mem e, kc, km, kp, List.mem_singleton]
    constructor
    · rintro (⟨h1, h2⟩ | rfl)
      · refine ⟨?_, h2⟩
        rcases h1 with h1 | h1 | h1
        · exact Or.inl (Or.inl h1)
        · exact Or.inr (Or.inl (Or.inl h1))
        · exact Or.inr (Or.inr (Or.inl h1))
      · refine ⟨?_, ev⟩
        rcases hS with hS | hS | hS
        · exact Or.inl (Or.inr ⟨hS, rfl⟩)
        · exact Or.inr (Or.inl (Or.inr ⟨hS, rfl⟩))
        · exact Or.inr (Or.inr (Or.inr ⟨hS, rfl⟩))
    · rintro ⟨h1, h2⟩
      have new : e.1 = q → (e.1, e.2) = (q, v) := fun hq => by rw [h2, hq, ev]
      rcases h1 with (h1 | ⟨_, h1⟩) | (h1 | ⟨_, h1⟩) | (h1 | ⟨_, h1⟩)
      · exact Or.inl ⟨Or.inl h1, h2⟩
      · exact Or.inr (new h1)
      · exact Or.inl ⟨Or.inr (Or.inl h1), h2⟩
      · exact Or.inr (new h1)
      · exact Or.inl ⟨Or.inr (Or.inr h1), h2⟩
      · exact Or.inr (new h1)
  · intro e he hlt
    have hq : q < eP c i' := by
      rcases hI with ⟨rfl, h1, h2, _⟩ | ⟨rfl, h1, _⟩
      · have := hc.lt (show i < i + 1 by omega) hlt; omega
      · exact h1 hlt
    rcases List.mem_append.1 he with he | he
    · have := hall e he; omega
    · simp at he; subst he; exact hq
  · intro e he hlt
    have hq : q < eP m j' := by
      rcases hJ with ⟨rfl, h1, h2, _⟩ | ⟨rfl, h1, _⟩
      · have := hm.lt (show j < j + 1 by omega) hlt; omega
      · exact h1 hlt
    rcases List.mem_append.1 he with he | he
    · have := hall e he; omega
    · simp at he; subst he; exact hq
  · intro hd e he
    have hq : q < p := by
      rcases hD with ⟨_, h2, _⟩ | ⟨h1, h2, _⟩
      · rw [h2] at hd; cases hd
      · exact h2 (h1 ▸ hd)
    rcases List.mem_append.1 he with he | he
    · have := hall e he; omega
    · simp at he; subst he; exact hq
  · have hl := h.len
    rw [List.length_append, List.length_singleton]
    have hi'' : i ≤ i' := by rcases hI with ⟨h1, _⟩ | ⟨h1, _⟩ <;> omega
    have hj'' : j ≤ j' := by rcases hJ with ⟨h1, _⟩ | ⟨h1, _⟩ <;> omega
    rcases hD with ⟨h1, h2, _⟩ | ⟨h1, _⟩
    · rw [h1] at hl; rw [h2]; simp at hl ⊢; omega
    · rw [h1]
      rcases hS with hS | hS | hS
      · omega
      · omega
      · rw [hS.1, hS.2] at h1; cases h1

theorem MInv.done {c m : List (Int × Int)} {p : Int} {O : List (Int × Int)} (h : MInv c m p c.length m.length true O) : RSpec c m p O := by
  refine ⟨h.srt, fun e => ?_⟩
  rw [h.mem e, List.take_length, List.take_length]
  simp

end Go.Proofs.Qxb6604789a
