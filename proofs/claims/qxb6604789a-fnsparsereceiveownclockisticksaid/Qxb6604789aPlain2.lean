/-
  THE PLAIN MATHEMATICS of a receive: the entrywise maximum of two clocks, one entry raised.
-/
import Derived.Test.Qxb6604789aPlain
namespace Go.Proofs.Qxb6604789a

/-- l holds an entry for process q. -/
def keyIn (l : List (Int × Int)) (q : Int) : Prop := ∃ e ∈ l, e.1 = q

/-- Processes strictly increasing. -/
def Srt (l : List (Int × Int)) : Prop := l.Pairwise (fun a b => a.1 < b.1)

theorem cnt_mem {l : List (Int × Int)} (h : Srt l) {e : Int × Int} (he : e ∈ l) : cnt l e.1 = e.2 := by
  induction l with
  | nil => cases he
  | cons f l ih =>
    obtain ⟨h1, h2⟩ := List.pairwise_cons.1 h
    rcases List.mem_cons.1 he with rfl | he
    · exact cnt_head _ _
    · rw [cnt_ne (by have := h1 e he; omega)]
      exact ih h2 he

theorem cnt_not {l : List (Int × Int)} {q : Int} (h : ¬ keyIn l q) : cnt l q = 0 := cnt_none fun e he hq => h ⟨e, he, hq.symm⟩

theorem mem_iff_cnt {l : List (Int × Int)} (h : Srt l) (e : Int × Int) : e ∈ l ↔ keyIn l e.1 ∧ e.2 = cnt l e.1 := by
  constructor
  · intro he
    exact ⟨⟨e, he, rfl⟩, (cnt_mem h he).symm⟩
  · rintro ⟨⟨f, hf, hq⟩, hn⟩
    rw [← hq, cnt_mem h hf] at hn
    have : e = f := Prod.ext hq.symm hn
    rwa [this]

theorem cnt_nonneg {l : List (Int × Int)} (h : ∀ e ∈ l, 0 < e.2) (q : Int) : 0 ≤ cnt l q := by
  induction l with
  | nil => simp [cnt]
  | cons e l ih =>
    rw [cnt]
    split
    · have := h e (List.mem_cons_self ..); omega
    · exact ih fun x hx => h x (List.mem_cons_of_mem _ hx)

/-- Two sorted lists with the same entries are one. -/
theorem srt_ext {l m : List (Int × Int)} (hl : Srt l) (hm : Srt m) (h : ∀ e, e ∈ l ↔ e ∈ m) : l = m := by
  induction l generalizing m with
  | nil =>
    cases m with
    | nil => rfl
    | cons f m => exact absurd ((h f).2 (List.mem_cons_self ..)) (by simp)
  | cons e l ih =>
    cases m with
    | nil => exact absurd ((h e).1 (List.mem_cons_self ..)) (by simp)
    | cons f m =>
      obtain ⟨h1, h2⟩ := List.pairwise_cons.1 hl
      obtain ⟨h3, h4⟩ := List.pairwise_cons.1 hm
      have hef : e = f := by
        rcases List.mem_cons.1 ((h e).1 (List.mem_cons_self ..)) with he | he
        · exact he
        · rcases List.mem_cons.1 ((h f).2 (List.mem_cons_self ..)) with hf | hf
          · exact hf.symm
          · have := h1 f hf; have := h3 e he; omega
      subst hef
      rw [ih h2 h4 fun x => ?_]
      constructor
      · intro hx
        rcases List.mem_cons.1 ((h x).1 (List.mem_cons_of_mem _ hx)) with rfl | hx'
        · have := h1 x hx; omega
        · exact hx'
      · intro hx
        rcases List.mem_cons.1 ((h x).2 (List.mem_cons_of_mem _ hx)) with rfl | hx'
        · have := h3 x hx; omega
        · exact hx'

/-! ### The first pass: the larger count into each entry that both hold -/
def raise (c ms : List (Int × Int)) : List (Int × Int) := c.map fun e => (e.1, max e.2 (cnt ms e.1))

theorem raise_length (c ms : List (Int × Int)) : (raise c ms).length = c.length := by simp [raise]
theorem raise_get {c ms : List (Int × Int)} {i : Nat} (h : i < c.length) : eP (raise c ms) i = eP c i ∧ eN (raise c ms) i = max (eN c i) (cnt ms (eP c i)) := by
  have h' : i < (raise c ms).length := by rwa [raise_length]
  rw [eP_get h', eN_get h', eP_get h, eN_get h]
  simp [raise]

theorem raise_nil {c : List (Int × Int)} (h : ∀ e ∈ c, 0 < e.2) : raise c [] = c := by
  unfold raise
  conv => rhs; rw [← List.map_id c]
  refine List.map_congr_left fun e he => ?_
  have := h e he
  have h2 : max e.2 (cnt [] e.1) = e.2 := by simp only [cnt]; omega
  rw [h2]; rfl

theorem raise_srt {c : List (Int × Int)} (h : Srt c) (ms : List (Int × Int)) : Srt (raise c ms) := by
  unfold Srt raise
  rw [List.pairwise_map]
  exact h

theorem cnt_take_succ {m : List (Int × Int)} {y : Nat} (hy : y < m.length) (q : Int) (h : Srt m) : cnt (m.take (y + 1)) q = if eP m y = q then eN m y else cnt (m.take y) q := by
  have key : ∀ (l : List (Int × Int)) (e : Int × Int), (∀ f ∈ l, f.1 < e.1) → cnt (l ++ [e]) q = if e.1 = q then e.2 else cnt l q := by
    intro l e hl
    induction l with
    | nil => simp [cnt]
    | cons f l ih =>
      rw [List.cons_append, cnt, cnt, ih fun x hx => hl x (List.mem_cons_of_mem _ hx)]
      have := hl f (List.mem_cons_self ..)
      by_cases h1 : f.1 = q
      · rw [if_pos h1, if_pos h1, if_neg (by omega)]
      · rw [if_neg h1, if_neg h1]
  rw [List.take_succ_eq_append_getElem hy, key, eP_get hy, eN_get hy]
  intro f hf
  obtain ⟨i, hi, rfl⟩ := List.mem_iff_getElem.1 hf
  simp at hi
  rw [List.getElem_take]
  exact (List.pairwise_iff_getElem.1 h) i y (by omega) hy (by omega)

theorem cnt_take_self {m : List (Int × Int)} {y : Nat} (hy : y < m.length) (h : Srt m) : cnt (m.take y) (eP m y) = 0 := by
  refine cnt_none fun f hf => ?_
  obtain ⟨i, hi, rfl⟩ := List.mem_iff_getElem.1 hf
  simp at hi
  rw [List.getElem_take, eP_get hy]
  have := (List.pairwise_iff_getElem.1 h) i y (by omega) hy (by omega)
  omega

/-- v and m hold the entry: v's count becomes the larger. -/
theorem raise_hit {c m : List (Int × Int)} {y t : Nat} (hc : Good c) (hm : Good m) (ht : t < c.length) (hy : y < m.length) (he : eP c t = eP m y) :
    (raise c (m.take y)).set t (eP (raise c (m.take y)) t, max (eN (raise c (m.take y)) t) (eN m y)) = raise c (m.take (y + 1)) := by
  apply List.ext_getElem
  · simp [raise_length]
  · intro i h1 h2
    have hi : i < c.length := by simpa [raise_length] using h2
    rw [List.getElem_set]
    by_cases hit : t = i
    · subst hit
      rw [if_pos rfl, (raise_get ht).1, (raise_get ht).2]
      simp only [raise, List.getElem_map]
      have e1 : cnt (m.take y) (eP c t) = 0 := by rw [he]; exact cnt_take_self hy hm.1
      have e2 : cnt (m.take (y + 1)) (c[t]).1 = eN m y := by rw [← eP_get ht, cnt_take_succ hy _ hm.1, if_pos he.symm]
      have hp : 0 < (c[t]).2 := hc.2 _ (List.getElem_mem ht)
      rw [e1, e2, eN_get ht, eP_get ht]
      rw [show max (c[t]).2 (0 : Int) = (c[t]).2 by omega]
    · rw [if_neg hit]
      simp only [raise, List.getElem_map]
      have hne : eP m y ≠ (c[i]).1 := by
        rw [← he, ← eP_get hi]
        rcases Nat.lt_or_gt_of_ne hit with hlt | hgt
        · have := hc.lt hlt hi; omega
        · have := hc.lt hgt ht; omega
      rw [cnt_take_succ hy _ hm.1, if_neg hne]

/-- v lacks the entry. -/
theorem raise_miss {c m : List (Int × Int)} {y : Nat} (hm : Good m) (hy : y < m.length) (h : ¬ keyIn c (eP m y)) : raise c (m.take (y + 1)) = raise c (m.take y) := by
  unfold raise
  refine List.map_congr_left fun e he => ?_
  rw [cnt_take_succ hy _ hm.1, if_neg (fun hq => h ⟨e, he, hq.symm⟩)]

/-- A clock raised by itself is itself. -/
theorem raise_self {c : List (Int × Int)} (hc : Good c) (y : Nat) : raise c (c.take y) = c := by
  unfold raise
  conv => rhs; rw [← List.map_id c]
  refine List.map_congr_left fun e he => ?_
  have hp := hc.2 e he
  have : cnt (c.take y) e.1 ≤ e.2 := by
    by_cases hk : keyIn (c.take y) e.1
    · obtain ⟨f, hf, hq⟩ := hk
      have h1 := cnt_mem hc.1 (List.mem_of_mem_take hf)
      have h2 := cnt_mem hc.1 he
      have h3 := cnt_mem (hc.take y).1 hf
      rw [hq] at h1 h3
      omega
    · rw [cnt_not hk]; omega
  have h2 : max e.2 (cnt (c.take y) e.1) = e.2 := by omega
  rw [h2]; rfl

/-! ### What v lacks -/
def hasKey (c : List (Int × Int)) (q : Int) : Bool := c.any fun e => decide (e.1 = q)
theorem hasKey_iff (c : List (Int × Int)) (q : Int) : hasKey c q = true ↔ keyIn c q := by simp [hasKey, keyIn]
def lkL (c ms : List (Int × Int)) : List (Int × Int) := ms.filter fun e => !hasKey c e.1

theorem lkL_mem (c m : List (Int × Int)) (e : Int × Int) : e ∈ lkL c m ↔ e ∈ m ∧ ¬ keyIn c e.1 := by
  rw [lkL, List.mem_filter, ← hasKey_iff]; simp

theorem lkL_hit {c m : List (Int × Int)} {y : Nat} (hy : y < m.length) (h : keyIn c (eP m y)) : lkL c (m.take (y + 1)) = lkL c (m.take y) := by
  rw [lkL, List.take_succ_eq_append_getElem hy, List.filter_append]
  have : hasKey c (m[y]).1 = true := by rw [← eP_get hy]; exact (hasKey_iff _ _).2 h
  simp [lkL, this]
theorem lkL_miss {c m : List (Int × Int)} {y : Nat} (hy : y < m.length) (h : ¬ keyIn c (eP m y)) : lkL c (m.take (y + 1)) = lkL c (m.take y) ++ [(eP m y, eN m y)] := by
  rw [lkL, List.take_succ_eq_append_getElem hy, List.filter_append]
  have : hasKey c (m[y]).1 = false := by
    rw [← eP_get hy]
    cases hk : hasKey c (eP m y)
    · rfl
    · exact absurd ((hasKey_iff _ _).1 hk) h
  simp [lkL, this, eP_get hy, eN_get hy]

theorem keyIn_at {c : List (Int × Int)} {t : Nat} (ht : t < c.length) : keyIn c (eP c t) := ⟨c[t], List.getElem_mem ht, (eP_get ht).symm⟩

/-- Where the search for m's entry ended tells whether c holds it. -/
theorem miss_at {c : List (Int × Int)} {q : Int} {t : Nat} (hc : Good c) (hlow : ∀ i, i < t → eP c i < q) (hup : t < c.length → eP c t ≠ q ∧ q ≤ eP c t) : ¬ keyIn c q := by
  rintro ⟨e, he, hq⟩
  obtain ⟨i, hi, rfl⟩ := List.mem_iff_getElem.1 he
  rw [← eP_get hi] at hq
  by_cases h1 : i < t
  · have := hlow i h1; omega
  · have h2 := hup (by omega)
    by_cases h3 : i = t
    · subst h3; exact h2.1 hq
    · have := hc.lt (show t < i by omega) hi; omega

/-! ### The result, by its entries -/
def val (c m : List (Int × Int)) (p q : Int) : Int := if q = p then inc (max (cnt c q) (cnt m q)) else max (cnt c q) (cnt m q)

/-- F is the entrywise maximum of c and m with p's entry raised by one. -/
def RSpec (c m : List (Int × Int)) (p : Int) (F : List (Int × Int)) : Prop := Srt F ∧ ∀ e, e ∈ F ↔ (keyIn c e.1 ∨ keyIn m e.1 ∨ e.1 = p) ∧ e.2 = val c m p e.1

theorem RSpec.uniq {c m : List (Int × Int)} {p : Int} {F G : List (Int × Int)} (h : RSpec c m p F) (k : RSpec c m p G) : F = G :=
  srt_ext h.1 k.1 fun e => (h.2 e).trans (k.2 e).symm

/-- R is the entrywise maximum. -/
def MSpec (c m R : List (Int × Int)) : Prop := Srt R ∧ ∀ e, e ∈ R ↔ (keyIn c e.1 ∨ keyIn m e.1) ∧ e.2 = max (cnt c e.1) (cnt m e.1)

theorem raise_mem {c m : List (Int × Int)} (hc : Good c) (e : Int × Int) : e ∈ raise c m ↔ keyIn c e.1 ∧ e.2 = max (cnt c e.1) (cnt m e.1) := by
  constructor
  · intro he
    obtain ⟨f, hf, rfl⟩ := List.mem_map.1 he
    exact ⟨⟨f, hf, rfl⟩, by show max f.2 (cnt m f.1) = _; rw [cnt_mem hc.1 hf]⟩
  · rintro ⟨⟨f, hf, hq⟩, hn⟩
    refine List.mem_map.2 ⟨f, hf, Prod.ext hq ?_⟩
    show max f.2 (cnt m f.1) = e.2
    rw [hn, ← hq, cnt_mem hc.1 hf]

theorem mspec_of_perm {c m R : List (Int × Int)} (hc : Good c) (hm : Good m) (hs : Srt R) (hp : R.Perm (raise c m ++ lkL c m)) : MSpec c m R := by
  refine ⟨hs, fun e => ?_⟩
  rw [hp.mem_iff, List.mem_append, raise_mem hc, lkL_mem, mem_iff_cnt hm.1]
  constructor
  · rintro (⟨h1, h2⟩ | ⟨⟨h1, h2⟩, h3⟩)
    · exact ⟨Or.inl h1, h2⟩
    · refine ⟨Or.inr h1, ?_⟩
      rw [cnt_not h3, h2]
      have := cnt_nonneg hm.2 e.1
      omega
  · rintro ⟨h1, h2⟩
    by_cases hk : keyIn c e.1
    · exact Or.inl ⟨hk, h2⟩
    · rcases h1 with h1 | h1
      · exact absurd h1 hk
      · refine Or.inr ⟨⟨h1, ?_⟩, hk⟩
        rw [h2, cnt_not hk]
        have := cnt_nonneg hm.2 e.1
        omega

theorem MSpec.pos {c m R : List (Int × Int)} (hc : Good c) (hm : Good m) (h : MSpec c m R) : Good R := by
  refine ⟨h.1, fun e he => ?_⟩
  obtain ⟨h1, h2⟩ := (h.2 e).1 he
  rw [h2]
  rcases h1 with ⟨f, hf, hq⟩ | ⟨f, hf, hq⟩
  · have := cnt_mem hc.1 hf; have := hc.2 f hf; rw [hq] at *; omega
  · have := cnt_mem hm.1 hf; have := hm.2 f hf; rw [hq] at *; omega

theorem MSpec.key {c m R : List (Int × Int)} (h : MSpec c m R) (q : Int) : keyIn R q ↔ keyIn c q ∨ keyIn m q := by
  constructor
  · rintro ⟨e, he, rfl⟩; exact ((h.2 e).1 he).1
  · intro hk
    exact ⟨(q, max (cnt c q) (cnt m q)), (h.2 _).2 ⟨hk, rfl⟩, rfl⟩

theorem take_lt {R : List (Int × Int)} {p : Int} {k : Nat} (hk : Found R p k) : ∀ e ∈ R.take k, e.1 < p := by
  intro e he
  obtain ⟨i, hi, rfl⟩ := List.mem_iff_getElem.1 he
  simp at hi
  rw [List.getElem_take, ← eP_get (by omega)]
  exact hk.2.1 i (by omega)

theorem inc_zero : inc 0 = 1 := by decide

/-- Tick on the entrywise maximum. -/
theorem tick_spec {c m R : List (Int × Int)} {p : Int} {k : Nat} (hc : Good c) (hm : Good m) (h : MSpec c m R) (hk : Found R p k) : RSpec c m p (tickL R p k) := by
  have hg := h.pos hc hm
  unfold tickL
  by_cases hf : k < R.length ∧ eP R k = p
  · rw [if_pos hf]
    obtain ⟨hkl, hP⟩ := hf
    have hmem : R[k] ∈ R := List.getElem_mem hkl
    have hRk := (h.2 _).1 hmem
    have hP' : (R[k]).1 = p := by rw [← eP_get hkl]; exact hP
    have hmap : ∀ i (hi : i < R.length), ((R.set k (p, inc (eN R k)))[i]'(by simpa using hi)).1 = (R[i]).1 := by
      intro i hi
      rw [List.getElem_set]
      by_cases hik : k = i
      · subst hik; rw [if_pos rfl]; exact hP'.symm
      · rw [if_neg hik]
    refine ⟨?_, fun e => ?_⟩
    · unfold Srt
      rw [List.pairwise_iff_getElem]
      intro i j hi hj hij
      rw [hmap i (by simpa using hi), hmap j (by simpa using hj)]
      exact (List.pairwise_iff_getElem.1 h.1) i j _ _ hij
    · have hval : (p, inc (eN R k)).2 = val c m p p := by
        show inc (eN R k) = _
        rw [val, if_pos rfl, eN_get hkl, hRk.2, hP']
      constructor
      · intro he
        obtain ⟨i, hi, rfl⟩ := List.mem_iff_getElem.1 he
        have hi' : i < R.length := by simpa using hi
        by_cases hik : k = i
        · subst hik
          rw [List.getElem_set, if_pos rfl]
          exact ⟨Or.inr (Or.inr rfl), hval⟩
        · rw [List.getElem_set, if_neg hik]
          have h1 := (h.2 _).1 (List.getElem_mem hi')
          have hne : (R[i]).1 ≠ p := by
            rw [← hP, ← eP_get hi']
            rcases Nat.lt_or_gt_of_ne hik with hlt | hgt
            · have := hg.lt hlt hi'; omega
            · have := hg.lt hgt hkl; omega
          refine ⟨?_, by rw [val, if_neg hne]; exact h1.2⟩
          rcases h1.1 with h2 | h2
          · exact Or.inl h2
          · exact Or.inr (Or.inl h2)
      · rintro ⟨h1, h2⟩
        by_cases hep : e.1 = p
        · have : e = (p, inc (eN R k)) := Prod.ext hep (by rw [h2, hep]; exact hval.symm)
          rw [this]
          exact List.mem_iff_getElem.2 ⟨k, by simpa using hkl, by rw [List.getElem_set, if_pos rfl]⟩
        · have hin : e ∈ R := (h.2 e).2 ⟨by
            rcases h1 with h1 | h1 | h1
            · exact Or.inl h1
            · exact Or.inr h1
            · exact absurd h1 hep, by rw [h2, val, if_neg hep]⟩
          obtain ⟨i, hi, rfl⟩ := List.mem_iff_getElem.1 hin
          have hik : k ≠ i := fun e => by subst e; exact hep hP'
          exact List.mem_iff_getElem.2 ⟨i, by simpa using hi, by rw [List.getElem_set, if_neg hik]⟩
  · rw [if_neg hf]
    have hno : ¬ keyIn R p := by
      refine miss_at hg hk.2.1 fun hkl => ⟨fun e => hf ⟨hkl, e⟩, hk.2.2 k (Nat.le_refl _) hkl⟩
    have hno' : ¬ (keyIn c p ∨ keyIn m p) := fun hx => hno ((h.key p).2 hx)
    have hup : ∀ e ∈ R.drop k, p < e.1 := by
      intro e he
      have h1 := (mem_drop_le hg he)
      have h2 := hk.2.2 k (Nat.le_refl _) h1.2
      have h3 : eP R k ≠ p := fun e => hf ⟨h1.2, e⟩
      omega
    have hsplit : R = R.take k ++ R.drop k := (List.take_append_drop k R).symm
    refine ⟨?_, fun e => ?_⟩
    · unfold Srt
      rw [List.pairwise_append, List.pairwise_cons]
      refine ⟨(hg.take k).1, ⟨hup, (hg.drop k).1⟩, fun a ha b hb => ?_⟩
      have h1 := take_lt hk a ha
      rcases List.mem_cons.1 hb with rfl | hb
      · exact h1
      · have := hup b hb; omega
    · have hmem : e ∈ R.take k ++ (p, 1) :: R.drop k ↔ e ∈ R ∨ e = (p, 1) := by
        conv => rhs; rw [hsplit]
        simp only [List.mem_append, List.mem_cons]
        constructor
        · rintro (h1 | h1 | h1)
          · exact Or.inl (Or.inl h1)
          · exact Or.inr h1
          · exact Or.inl (Or.inr h1)
        · rintro ((h1 | h1) | h1)
          · exact Or.inl h1
          · exact Or.inr (Or.inr h1)
          · exact Or.inr (Or.inl h1)
      have hval : val c m p p = 1 := by
        rw [val, if_pos rfl, cnt_not fun hx => hno' (Or.inl hx), cnt_not fun hx => hno' (Or.inr hx)]
        exact inc_zero
      rw [hmem]
      constructor
      · rintro (h1 | rfl)
        · have h2 := (h.2 e).1 h1
          have hne : e.1 ≠ p := fun hx => hno ⟨e, h1, hx⟩
          refine ⟨?_, by rw [val, if_neg hne]; exact h2.2⟩
          rcases h2.1 with h3 | h3
          · exact Or.inl h3
          · exact Or.inr (Or.inl h3)
        · exact ⟨Or.inr (Or.inr rfl), hval.symm⟩
      · rintro ⟨h1, h2⟩
        by_cases hep : e.1 = p
        · exact Or.inr (Prod.ext hep (by rw [h2, hep]; exact hval))
        · refine Or.inl ((h.2 e).2 ⟨?_, by rw [h2, val, if_neg hep]⟩)
          rcases h1 with h1 | h1 | h1
          · exact Or.inl h1
          · exact Or.inr h1
          · exact absurd h1 hep

/-! ### The merge from the back: a entries of c' and b of m are still to be placed; T stands behind them -/
structure BInv (c m : List (Int × Int)) (a b : Nat) (T : List (Int × Int)) : Prop where
  ha : a ≤ c.length
  hb : b ≤ m.length
  perm : ((raise c m).take a ++ lkL c (m.take b) ++ T).Perm (raise c m ++ lkL c m)
  srt : Srt T
  low : ∀ e ∈ T, ∀ f ∈ (raise c m).take a, f.1 < e.1
  lowm : ∀ e ∈ T, ∀ f ∈ m.take b, f.1 < e.1
  up : ∀ x, a ≤ x → x < c.length → ∀ f ∈ m.take b, f.1 < eP c x

theorem BInv.start (c m : List (Int × Int)) : BInv c m c.length m.length [] where
  ha := Nat.le_refl _
  hb := Nat.le_refl _
  perm := by rw [List.take_of_length_le (by rw [raise_length]; exact Nat.le_refl _), List.take_length, List.append_nil]
  srt := List.Pairwise.nil
  low := by simp
  lowm := by simp
  up := fun x h1 h2 => by omega

theorem take_succ_eq {l : List (Int × Int)} {a : Nat} (h : a < l.length) : l.take (a + 1) = l.take a ++ [(eP l a, eN l a)] := by
  rw [List.take_succ_eq_append_getElem h, eP_get h, eN_get h]

theorem mem_take_lt {l : List (Int × Int)} (h : Srt l) {a : Nat} (ha : a < l.length) {f : Int × Int} (hf : f ∈ l.take a) : f.1 < eP l a := by
  obtain ⟨i, hi, rfl⟩ := List.mem_iff_getElem.1 hf
  simp at hi
  rw [List.getElem_take, eP_get ha]
  exact (List.pairwise_iff_getElem.1 h) i a (by omega) ha (by omega)

theorem mem_take_le {l : List (Int × Int)} (h : Srt l) {a : Nat} (ha : a < l.length) {f : Int × Int} (hf : f ∈ l.take (a + 1)) : f.1 ≤ eP l a := by
  rw [take_succ_eq ha] at hf
  rcases List.mem_append.1 hf with hf | hf
  · have := mem_take_lt h ha hf; omega
  · simp at hf; subst hf; exact Int.le_refl _

/-- v's entry goes behind; m's last one stays or is the same process. -/
theorem BInv.fromC {c m : List (Int × Int)} {a b b' : Nat} {T : List (Int × Int)} (hc : Good c) (hm : Good m) (h : BInv c m (a + 1) (b + 1) T) (hp : eP m b ≤ eP c a)
    (hb' : (b' = b + 1 ∧ eP m b < eP c a) ∨ (b' = b ∧ eP m b = eP c a)) : BInv c m a b' ((eP (raise c m) a, eN (raise c m) a) :: T) := by
  have hal := h.ha
  have hbl := h.hb
  have har : a < (raise c m).length := by rw [raise_length]; omega
  have eA : eP (raise c m) a = eP c a := (raise_get (by omega)).1
  have hlk : lkL c (m.take b') = lkL c (m.take (b + 1)) := by
    rcases hb' with ⟨rfl, _⟩ | ⟨rfl, he⟩
    · rfl
    · exact (lkL_hit (by omega) (by rw [he]; exact keyIn_at (by omega))).symm
  have hmm : ∀ f ∈ m.take b', f ∈ m.take (b + 1) ∧ f.1 < eP c a := by
    intro f hf
    rcases hb' with ⟨rfl, hlt⟩ | ⟨rfl, he⟩
    · have := mem_take_le hm.1 (show b < m.length by omega) hf
      exact ⟨hf, by omega⟩
    · have := mem_take_lt hm.1 (show b' < m.length by omega) hf
      exact ⟨by rw [take_succ_eq (by omega)]; exact List.mem_append_left _ hf, by omega⟩
  refine ⟨by omega, by rcases hb' with ⟨rfl, _⟩ | ⟨rfl, _⟩ <;> omega, ?_, ?_, ?_, ?_, ?_⟩
  · rw [hlk]
    refine List.Perm.trans ?_ h.perm
    rw [take_succ_eq har, List.append_assoc, List.append_assoc, List.append_assoc]
    refine List.Perm.append_left _ ?_
    simp only [List.singleton_append]
    exact List.perm_middle
  · refine List.pairwise_cons.2 ⟨fun e he => ?_, h.srt⟩
    exact h.low e he _ (by rw [take_succ_eq har]; simp)
  · intro e he f hf
    rcases List.mem_cons.1 he with rfl | he
    · exact mem_take_lt (raise_srt hc.1 m) har hf
    · exact h.low e he f (by rw [take_succ_eq har]; exact List.mem_append_left _ hf)
  · intro e he f hf
    rcases List.mem_cons.1 he with rfl | he
    · show f.1 < eP (raise c m) a
      rw [eA]; exact (hmm f hf).2
    · exact h.lowm e he f (hmm f hf).1
  · intro x h1 h2 f hf
    by_cases hx : x = a
    · subst hx; exact (hmm f hf).2
    · exact h.up x (by omega) h2 f (hmm f hf).1

/-- m's entry goes behind. -/
theorem BInv.fromM {c m : List (Int × Int)} {a b : Nat} {T : List (Int × Int)} (hc : Good c) (hm : Good m) (h : BInv c m a (b + 1) T) (hp : 0 < a → eP c (a - 1) < eP m b) :
    ¬ keyIn c (eP m b) ∧ BInv c m a b ((eP m b, eN m b) :: T) := by
  have hbl := h.hb
  have hal := h.ha
  have hbm : (eP m b, eN m b) ∈ m.take (b + 1) := by rw [take_succ_eq (by omega)]; simp
  have hno : ¬ keyIn c (eP m b) := by
    refine miss_at (t := a) hc (fun i hi => ?_) (fun hal => ?_)
    · have h1 := hp (by omega)
      by_cases hia : i = a - 1
      · subst hia; exact h1
      · have := hc.lt (show i < a - 1 by omega) (by omega); omega
    · have := h.up a (Nat.le_refl _) hal _ hbm
      have : eP m b < eP c a := this
      omega
  refine ⟨hno, ⟨hal, by omega, ?_, ?_, ?_, ?_, ?_⟩⟩
  · have := h.perm
    rw [lkL_miss (by omega) hno] at this
    refine List.Perm.trans ?_ this
    simp only [List.append_assoc, List.singleton_append]
    exact List.Perm.refl _
  · exact List.pairwise_cons.2 ⟨fun e he => h.lowm e he _ hbm, h.srt⟩
  · intro e he f hf
    rcases List.mem_cons.1 he with rfl | he
    · show f.1 < eP m b
      obtain ⟨i, hi, rfl⟩ := List.mem_iff_getElem.1 hf
      simp [raise_length] at hi
      have h0 : (((raise c m).take a)[i]'(by simp [raise_length]; omega)).1 = eP c i := by
        rw [List.getElem_take, ← eP_get (by rw [raise_length]; omega)]
        exact (raise_get (by omega)).1
      rw [h0]
      have h1 := hp (by omega)
      by_cases hia : i = a - 1
      · subst hia; exact h1
      · have := hc.lt (show i < a - 1 by omega) (by omega); omega
    · exact h.low e he f hf
  · intro e he f hf
    rcases List.mem_cons.1 he with rfl | he
    · exact mem_take_lt hm.1 (by omega) hf
    · exact h.lowm e he f (by rw [take_succ_eq (by omega)]; exact List.mem_append_left _ hf)
  · intro x h1 h2 f hf
    exact h.up x h1 h2 f (by rw [take_succ_eq (by omega)]; exact List.mem_append_left _ hf)

/-- Nothing of m is left: what stands is the entrywise maximum. -/
theorem BInv.done {c m : List (Int × Int)} {a : Nat} {T : List (Int × Int)} (hc : Good c) (hm : Good m) (h : BInv c m a 0 T) : MSpec c m ((raise c m).take a ++ T) := by
  refine mspec_of_perm hc hm ?_ ?_
  · unfold Srt
    rw [List.pairwise_append]
    exact ⟨List.Pairwise.take (raise_srt hc.1 m), h.srt, fun f hf e he => h.low e he f hf⟩
  · have := h.perm
    simpa [lkL] using this

/-- Nothing was lacking: the raised clock is the entrywise maximum. -/
theorem mspec_none {c m : List (Int × Int)} (hc : Good c) (hm : Good m) (h : (lkL c m).length = 0) : MSpec c m (raise c m) := by
  refine mspec_of_perm hc hm (raise_srt hc.1 m) ?_
  rw [List.eq_nil_of_length_eq_zero h, List.append_nil]

theorem set_head (V : List (Int × Int)) (a r : Nat) (e : Int × Int) (h : a ≤ r) : (V.set r e).take a = V.take a := by
  apply List.ext_getElem?
  intro i
  by_cases hi : i < a
  · rw [List.getElem?_take, List.getElem?_take, if_pos hi, if_pos hi, List.getElem?_set, if_neg (by omega)]
  · rw [List.getElem?_take, List.getElem?_take, if_neg hi, if_neg hi]

theorem set_tail (V : List (Int × Int)) (N r : Nat) (e : Int × Int) (h : r < N) (hN : N ≤ V.length) : ((V.set r e).take N).drop r = e :: (V.take N).drop (r + 1) := by
  have hl : r < ((V.set r e).take N).length := by simp; omega
  rw [List.drop_eq_getElem_cons hl]
  congr 1
  · rw [List.getElem_take, List.getElem_set, if_pos rfl]
  · apply List.ext_getElem?
    intro i
    rw [List.getElem?_drop, List.getElem?_drop, List.getElem?_take, List.getElem?_take, List.getElem?_set]
    by_cases hi : r + 1 + i < N
    · rw [if_pos hi, if_pos hi, if_neg (by omega)]
    · rw [if_neg hi, if_neg hi]

theorem get_of_take {V W : List (Int × Int)} {a i : Nat} (h : V.take a = W.take a) (hi : i < a) : eP V i = eP W i ∧ eN V i = eN W i := by
  rw [← eP_take V a i hi, ← eN_take V a i hi, h, eP_take W a i hi, eN_take W a i hi]
  exact ⟨rfl, rfl⟩

theorem lkL_le (c m : List (Int × Int)) : (lkL c m).length ≤ m.length := List.length_filter_le _ _

/-- The book of the merge from the back: V is the row, N the length, r entries are still to be placed. -/
def Back (c m V : List (Int × Int)) (N a b r : Nat) (T : List (Int × Int)) : Prop :=
  BInv c m a b T ∧ V.take a = (raise c m).take a ∧ (V.take N).drop r = T ∧ r = a + (lkL c (m.take b)).length

theorem Back.fromC {c m V : List (Int × Int)} {N a b b' r : Nat} {T : List (Int × Int)} (hc : Good c) (hm : Good m) (h : Back c m V N (a + 1) (b + 1) (r + 1) T) (hN : N ≤ V.length) (hr : r < N) (hp : eP m b ≤ eP c a)
    (hb' : (b' = b + 1 ∧ eP m b < eP c a) ∨ (b' = b ∧ eP m b = eP c a)) : Back c m (V.set r (eP c a, eN V a)) N a b' r ((eP c a, eN V a) :: T) := by
  obtain ⟨h1, h2, h3, h4⟩ := h
  have hal := h1.ha
  have hbl := h1.hb
  have hg := get_of_take h2 (show a < a + 1 by omega)
  have e1 : (eP c a, eN V a) = (eP (raise c m) a, eN (raise c m) a) := by rw [hg.2, (raise_get (by omega)).1]
  have hlk : lkL c (m.take b') = lkL c (m.take (b + 1)) := by
    rcases hb' with ⟨rfl, _⟩ | ⟨rfl, he⟩
    · rfl
    · exact (lkL_hit (by omega) (by rw [he]; exact keyIn_at (by omega))).symm
  refine ⟨by rw [e1]; exact h1.fromC hc hm hp hb', ?_, ?_, ?_⟩
  · rw [set_head _ _ _ _ (by omega)]
    have := congrArg (List.take a) h2
    rwa [List.take_take, List.take_take, Nat.min_eq_left (by omega)] at this
  · rw [set_tail _ _ _ _ hr hN, h3]
  · rw [hlk]; omega

theorem Back.fromM {c m V : List (Int × Int)} {N a b r : Nat} {T : List (Int × Int)} (hc : Good c) (hm : Good m) (h : Back c m V N a (b + 1) (r + 1) T) (hN : N ≤ V.length) (hr : r < N) (hp : 0 < a → eP c (a - 1) < eP m b) :
    Back c m (V.set r (eP m b, eN m b)) N a b r ((eP m b, eN m b) :: T) ∧ a ≤ r := by
  obtain ⟨h1, h2, h3, h4⟩ := h
  obtain ⟨hno, h5⟩ := h1.fromM hc hm hp
  have hbl := h1.hb
  rw [lkL_miss (by omega) hno, List.length_append, List.length_singleton] at h4
  refine ⟨⟨h5, ?_, ?_, by omega⟩, by omega⟩
  · rw [set_head _ _ _ _ (by omega)]; exact h2
  · rw [set_tail _ _ _ _ hr hN, h3]

theorem Back.pos {c m V : List (Int × Int)} {N a b r : Nat} {T : List (Int × Int)} (hc : Good c) (hm : Good m) (h : Back c m V N a (b + 1) r T) (hp : 0 < a → eP c (a - 1) < eP m b) : 1 ≤ r := by
  obtain ⟨h1, _, _, h4⟩ := h
  obtain ⟨hno, _⟩ := h1.fromM hc hm hp
  have hbl := h1.hb
  rw [lkL_miss (by omega) hno, List.length_append, List.length_singleton] at h4
  omega

theorem Back.done {c m V : List (Int × Int)} {N a r : Nat} {T : List (Int × Int)} (hc : Good c) (hm : Good m) (h : Back c m V N a 0 r T) (hN : r ≤ N) : MSpec c m (V.take N) := by
  obtain ⟨h1, h2, h3, h4⟩ := h
  have h5 := h1.done hc hm
  have hra : r = a := by simpa [lkL] using h4
  subst hra
  have : V.take N = (raise c m).take r ++ T := by
    rw [← h2, ← h3]
    conv => lhs; rw [← List.take_append_drop r (V.take N)]
    rw [List.take_take, Nat.min_eq_left hN]
  rwa [this]

theorem MSpec.length_le {c m R : List (Int × Int)} (hp : R.Perm (raise c m ++ lkL c m)) : R.length ≤ c.length + m.length := by
  have := hp.length_eq
  have := lkL_le c m
  rw [List.length_append, raise_length] at *
  omega

theorem tickL_length (R : List (Int × Int)) (p : Int) (k : Nat) : (tickL R p k).length ≤ R.length + 1 := by
  unfold tickL
  split
  · simp
  · simp; omega

end Go.Proofs.Qxb6604789a
