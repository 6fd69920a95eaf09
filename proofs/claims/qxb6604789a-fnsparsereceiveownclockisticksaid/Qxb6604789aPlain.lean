/-
  THE PLAIN MATHEMATICS of sparse clocks: lists of pairs (process, count). No Go in sight; it imports nothing of the dump.
-/
namespace Go.Proofs.Qxb6604789a

/-- Process and count of entry i. -/
def eP (l : List (Int × Int)) (i : Nat) : Int := (l.getD i (0, 0)).1
def eN (l : List (Int × Int)) (i : Nat) : Int := (l.getD i (0, 0)).2

theorem eP_get {l : List (Int × Int)} {i : Nat} (h : i < l.length) : eP l i = (l[i]).1 := by simp [eP, List.getD, h]
theorem eN_get {l : List (Int × Int)} {i : Nat} (h : i < l.length) : eN l i = (l[i]).2 := by simp [eN, List.getD, h]

/-- The documented domain, as the law's 'wellFormed' asks it. -/
def wfB (l : List (Int × Int)) : Bool := decide (∀ j, j < l.length → eN l j ≠ 0 ∧ (0 < j → eP l (j - 1) < eP l j))

theorem wfB_bad {l : List (Int × Int)} {k : Nat} (hk : k < l.length) (h : eN l k = 0 ∨ (0 < k ∧ eP l k ≤ eP l (k - 1))) : wfB l = false := by
  unfold wfB
  refine decide_eq_false fun hall => ?_
  obtain ⟨h1, h2⟩ := hall k hk
  rcases h with h | ⟨h0, h⟩
  · exact h1 h
  · have := h2 h0
    omega

/-- Both numbers fit their kinds. -/
def InR (e : Int × Int) : Prop := -9223372036854775808 ≤ e.1 ∧ e.1 ≤ 9223372036854775807 ∧ 0 ≤ e.2 ∧ e.2 ≤ 18446744073709551615

/-- Processes strictly increasing, counts positive. -/
def Good (l : List (Int × Int)) : Prop := l.Pairwise (fun a b => a.1 < b.1) ∧ ∀ e ∈ l, 0 < e.2

theorem Good.tail {e : Int × Int} {l : List (Int × Int)} (h : Good (e :: l)) : Good l :=
  ⟨(List.pairwise_cons.1 h.1).2, fun x hx => h.2 x (List.mem_cons_of_mem _ hx)⟩
theorem Good.head {e : Int × Int} {l : List (Int × Int)} (h : Good (e :: l)) : ∀ x ∈ l, e.1 < x.1 := (List.pairwise_cons.1 h.1).1
theorem Good.pos {e : Int × Int} {l : List (Int × Int)} (h : Good (e :: l)) : 0 < e.2 := h.2 e (List.mem_cons_self ..)
theorem Good.drop {l : List (Int × Int)} (h : Good l) (k : Nat) : Good (l.drop k) :=
  ⟨h.1.drop, fun e he => h.2 e (List.mem_of_mem_drop he)⟩
theorem Good.take {l : List (Int × Int)} (h : Good l) (k : Nat) : Good (l.take k) :=
  ⟨h.1.take, fun e he => h.2 e (List.mem_of_mem_take he)⟩

theorem Good.lt {l : List (Int × Int)} (h : Good l) {i j : Nat} (hij : i < j) (hj : j < l.length) : eP l i < eP l j := by
  rw [eP_get (by omega), eP_get hj]
  exact (List.pairwise_iff_getElem.1 h.1) i j (by omega) hj hij

theorem good_of_wfB {l : List (Int × Int)} (hr : ∀ e ∈ l, InR e) (h : wfB l = true) : Good l := by
  have h' := of_decide_eq_true h
  constructor
  · rw [List.pairwise_iff_getElem]
    have key : ∀ d i, i + d + 1 < l.length → eP l i < eP l (i + d + 1) := by
      intro d
      induction d with
      | zero => intro i hi; have := (h' (i + 1) hi).2 (by omega); simpa using this
      | succ d ih =>
        intro i hi
        have h1 := ih i (by omega)
        have h2 := (h' (i + (d + 1) + 1) hi).2 (by omega)
        have e : i + (d + 1) + 1 - 1 = i + d + 1 := by omega
        rw [e] at h2
        omega
    intro i j hi hj hij
    have := key (j - i - 1) i (by omega)
    rw [show i + (j - i - 1) + 1 = j by omega, eP_get hi, eP_get hj] at this
    exact this
  · intro e he
    obtain ⟨i, hi, rfl⟩ := List.mem_iff_getElem.1 he
    have h1 := (h' i hi).1
    rw [eN_get hi] at h1
    have := (hr _ he).2.2.1
    omega

theorem wfB_of_good {l : List (Int × Int)} (h : Good l) : wfB l = true := by
  refine decide_eq_true fun j hj => ⟨?_, fun h0 => h.lt (by omega) hj⟩
  rw [eN_get hj]
  have := h.2 _ (List.getElem_mem hj)
  omega

/-- The count for process p, 0 where there is none. -/
def cnt : List (Int × Int) → Int → Int
  | [], _ => 0
  | e :: l, p => if e.1 = p then e.2 else cnt l p

theorem cnt_none {l : List (Int × Int)} {p : Int} (h : ∀ e ∈ l, p ≠ e.1) : cnt l p = 0 := by
  induction l with
  | nil => rfl
  | cons e l ih =>
    rw [cnt, if_neg (fun x => h e (List.mem_cons_self ..) x.symm)]
    exact ih fun x hx => h x (List.mem_cons_of_mem _ hx)

theorem cnt_ne {e : Int × Int} {l : List (Int × Int)} {p : Int} (h : e.1 ≠ p) : cnt (e :: l) p = cnt l p := by rw [cnt, if_neg h]
theorem cnt_head (e : Int × Int) (l : List (Int × Int)) : cnt (e :: l) e.1 = e.2 := by rw [cnt, if_pos rfl]

/-- Some count of c is below d's. -/
def ltB (c d : List (Int × Int)) : Bool := d.any fun e => decide (cnt c e.1 < e.2)

/-- How c stands to d: 0 equal, 1 before, 2 after, 3 concurrent. -/
def relI (c d : List (Int × Int)) : Int := if ltB c d then (if ltB d c then 3 else 1) else (if ltB d c then 2 else 0)

theorem any_congr {α : Type} {l : List α} {f g : α → Bool} (h : ∀ x ∈ l, f x = g x) : l.any f = l.any g := by
  induction l with
  | nil => rfl
  | cons a l ih => rw [List.any_cons, List.any_cons, h a (List.mem_cons_self ..), ih fun x hx => h x (List.mem_cons_of_mem _ hx)]

theorem ltB_nil_right (c : List (Int × Int)) : ltB c [] = false := rfl
theorem ltB_nil_left {d : List (Int × Int)} (h : ∀ e ∈ d, 0 < e.2) : ltB [] d = decide (d ≠ []) := by
  cases d with
  | nil => rfl
  | cons e d => simp [ltB, cnt, h e (List.mem_cons_self ..)]

/-- A head of c that lies below all of d: it adds nothing to 'c < d'. -/
theorem ltB_skip {e : Int × Int} {c d : List (Int × Int)} (h : ∀ x ∈ d, e.1 < x.1) : ltB (e :: c) d = ltB c d :=
  any_congr fun x hx => by rw [cnt_ne (by have := h x hx; omega)]
/-- .. and it is above d's count there, which is 0. -/
theorem ltB_own {e : Int × Int} {c d : List (Int × Int)} (h : ∀ x ∈ d, e.1 < x.1) (hp : 0 < e.2) : ltB d (e :: c) = true := by
  have : cnt d e.1 = 0 := cnt_none fun x hx => by have := h x hx; omega
  simp [ltB, this, hp]
/-- Both heads count one process. -/
theorem ltB_both {e f : Int × Int} {c d : List (Int × Int)} (he : e.1 = f.1) (hd : ∀ x ∈ d, f.1 < x.1) : ltB (e :: c) (f :: d) = (decide (e.2 < f.2) || ltB c d) := by
  have h1 : cnt (e :: c) f.1 = e.2 := by rw [← he]; exact cnt_head e c
  have h2 : d.any (fun x => decide (cnt (e :: c) x.1 < x.2)) = ltB c d := any_congr fun x hx => by rw [cnt_ne (by have := hd x hx; omega)]
  rw [ltB, List.any_cons, h1, h2]

theorem cnt_drop {l : List (Int × Int)} {p : Int} : ∀ k : Nat, (∀ j, j < k → j < l.length → eP l j ≠ p) → cnt (l.drop k) p = cnt l p := by
  induction l with
  | nil => intro k _; simp
  | cons e l ih =>
    intro k h
    cases k with
    | zero => rfl
    | succ k =>
      rw [List.drop_succ_cons, ih k (fun j hj hl => by have := h (j + 1) (by omega) (by simpa using hl); simpa [eP] using this)]
      exact (cnt_ne (by have := h 0 (by omega) (by simp); simpa [eP] using this)).symm

theorem drop_cons {l : List (Int × Int)} {k : Nat} (h : k < l.length) : l.drop k = (eP l k, eN l k) :: l.drop (k + 1) := by
  rw [List.drop_eq_getElem_cons h, eP_get h, eN_get h]

theorem eP_drop (l : List (Int × Int)) (k j : Nat) : eP (l.drop k) j = eP l (k + j) := by simp [eP, List.getD]
theorem eN_drop (l : List (Int × Int)) (k j : Nat) : eN (l.drop k) j = eN l (k + j) := by simp [eN, List.getD]

theorem mem_drop_le {l : List (Int × Int)} (h : Good l) {k : Nat} {x : Int × Int} (hx : x ∈ l.drop k) : eP l k ≤ x.1 ∧ k < l.length := by
  obtain ⟨i, hi, rfl⟩ := List.mem_iff_getElem.1 hx
  simp at hi
  rw [List.getElem_drop]
  refine ⟨?_, by omega⟩
  by_cases h0 : i = 0
  · subst h0; rw [eP_get (by omega)]; exact Int.le_refl _
  · have := h.lt (show k < k + i by omega) (by omega)
    rw [eP_get (show k + i < l.length by omega)] at this
    omega

theorem mem_drop_lt {l : List (Int × Int)} (h : Good l) {k : Nat} {x : Int × Int} (hx : x ∈ l.drop (k + 1)) : eP l k < x.1 := by
  obtain ⟨h1, h2⟩ := mem_drop_le h hx
  have := h.lt (show k < k + 1 by omega) h2
  omega

/-! ### relModel's rounds: what is left of c from i on, of d from j on -/
def InvB (c d : List (Int × Int)) (i j : Nat) (lt gt : Bool) : Prop :=
  (lt || ltB (c.drop i) (d.drop j)) = ltB c d ∧ (gt || ltB (d.drop j) (c.drop i)) = ltB d c

theorem InvB.start (c d : List (Int × Int)) : InvB c d 0 0 false false := by simp [InvB]

theorem InvB.left {c d : List (Int × Int)} {i j : Nat} {lt gt : Bool} (hc : Good c) (h : InvB c d i j lt gt) (hi : i < c.length) (hd : ∀ x ∈ d.drop j, eP c i < x.1) :
    InvB c d (i + 1) j lt true := by
  obtain ⟨h1, h2⟩ := h
  have hp : 0 < eN c i := by rw [eN_get hi]; exact hc.2 _ (List.getElem_mem hi)
  rw [drop_cons hi] at h1 h2
  rw [ltB_skip (e := (eP c i, eN c i)) (c := c.drop (i + 1)) (d := d.drop j) hd] at h1
  rw [ltB_own (e := (eP c i, eN c i)) (c := c.drop (i + 1)) (d := d.drop j) hd hp] at h2
  exact ⟨h1, by simpa using h2⟩

theorem InvB.right {c d : List (Int × Int)} {i j : Nat} {lt gt : Bool} (hd : Good d) (h : InvB c d i j lt gt) (hj : j < d.length) (hc : ∀ x ∈ c.drop i, eP d j < x.1) :
    InvB c d i (j + 1) true gt := by
  have h' : InvB d c j i gt lt := ⟨h.2, h.1⟩
  have := h'.left hd hj hc
  exact ⟨this.2, this.1⟩

theorem InvB.both {c d : List (Int × Int)} {i j : Nat} {lt gt : Bool} (hc : Good c) (hd : Good d) (h : InvB c d i j lt gt) (hi : i < c.length) (hj : j < d.length) (he : eP c i = eP d j) :
    InvB c d (i + 1) (j + 1) (lt || decide (eN c i < eN d j)) (gt || decide (eN d j < eN c i)) := by
  obtain ⟨h1, h2⟩ := h
  rw [drop_cons hi, drop_cons hj] at h1 h2
  rw [ltB_both (e := (eP c i, eN c i)) (f := (eP d j, eN d j)) (c := c.drop (i + 1)) (d := d.drop (j + 1)) he (fun x hx => mem_drop_lt hd hx)] at h1
  rw [ltB_both (e := (eP d j, eN d j)) (f := (eP c i, eN c i)) (c := d.drop (j + 1)) (d := c.drop (i + 1)) he.symm (fun x hx => mem_drop_lt hc hx)] at h2
  exact ⟨by rw [Bool.or_assoc]; exact h1, by rw [Bool.or_assoc]; exact h2⟩

theorem InvB.done {c d : List (Int × Int)} {i j : Nat} {lt gt : Bool} (h : InvB c d i j lt gt) (hi : c.length ≤ i) (hj : d.length ≤ j) : lt = ltB c d ∧ gt = ltB d c := by
  obtain ⟨h1, h2⟩ := h
  rw [List.drop_eq_nil_of_le hi, List.drop_eq_nil_of_le hj] at h1 h2
  exact ⟨by simpa [ltB] using h1, by simpa [ltB] using h2⟩

/-- Entries of d from j on that lie below entry i of c are passed. -/
theorem InvB.pass {c d : List (Int × Int)} {i j j' : Nat} {lt gt : Bool} (hc : Good c) (hd : Good d) (h : InvB c d i j lt gt) (hjj : j < j') (hj' : j' ≤ d.length)
    (hl : ∀ k, j ≤ k → k < j' → eP d k < eP c i) : InvB c d i j' true gt := by
  obtain ⟨h1, h2⟩ := h
  have hj : j < d.length := by omega
  have hp : 0 < eN d j := by rw [eN_get hj]; exact hd.2 _ (List.getElem_mem hj)
  constructor
  · rw [← h1]
    have : ltB (c.drop i) (d.drop j) = true := by
      rw [drop_cons hj]
      refine ltB_own (fun x hx => ?_) hp
      have := (mem_drop_le hc hx).1
      have := hl j (Nat.le_refl _) hjj
      show eP d j < x.1
      omega
    simp [this]
  · rw [← h2]
    congr 1
    refine any_congr fun x hx => ?_
    have hx' := (mem_drop_le hc hx).1
    rw [show d.drop j' = (d.drop j).drop (j' - j) by rw [List.drop_drop]; congr 1; omega, cnt_drop (l := d.drop j) (j' - j) (fun m hm hml => by
      rw [eP_drop]
      have := hl (j + m) (by omega) (by omega)
      omega)]

/-- The end of Compare: nothing is left of c. -/
theorem InvB.end {c d : List (Int × Int)} {i j : Nat} {lt gt : Bool} (hd : Good d) (h : InvB c d i j lt gt) (hi : c.length ≤ i) : (lt || decide (j < d.length)) = ltB c d ∧ gt = ltB d c := by
  obtain ⟨h1, h2⟩ := h
  rw [List.drop_eq_nil_of_le hi] at h1 h2
  rw [ltB_nil_left (hd.drop j).2] at h1
  have : decide (d.drop j ≠ []) = decide (j < d.length) := by
    congr 1
    simp
  exact ⟨by rw [← this]; exact h1, by simpa [ltB] using h2⟩

theorem InvB.conc {c d : List (Int × Int)} {i j : Nat} (h : InvB c d i j true true) : relI c d = 3 ∧ relI d c = 3 := by
  obtain ⟨h1, h2⟩ := h
  have h1 : ltB c d = true := by simpa using h1.symm
  have h2 : ltB d c = true := by simpa using h2.symm
  simp [relI, h1, h2]

/-- Before and after change places. -/
def conv (r : Int) : Int := if r = 1 then 2 else if r = 2 then 1 else r
theorem conv_relI (c d : List (Int × Int)) : conv (relI c d) = relI d c := by
  unfold conv relI
  cases ltB c d <;> cases ltB d c <;> simp

theorem pass_start {d : List (Int × Int)} {y : Nat} {p : Int} (h : eP d y < p) : ∀ k, y ≤ k → k < y + 1 → eP d k < p := by
  intro k h1 h2
  have : k = y := by omega
  subst this
  exact h
theorem pass_step {d : List (Int × Int)} {y f t : Nat} {p : Int} (hg : Good d) (hl : f + t ≤ d.length) (h : eP d (f + t - 1) < p) : ∀ k, y ≤ k → k < f + t → eP d k < p := by
  intro k _ h2
  by_cases he : k = f + t - 1
  · subst he; exact h
  · have := hg.lt (show k < f + t - 1 by omega) (by omega)
    omega

/-- What search answers: the first place whose process is not below p. -/
def Found (l : List (Int × Int)) (p : Int) (k : Nat) : Prop := k ≤ l.length ∧ (∀ i, i < k → eP l i < p) ∧ (∀ i, k ≤ i → i < l.length → p ≤ eP l i)

theorem Found.uniq {l : List (Int × Int)} {p : Int} {k k' : Nat} (h : Found l p k) (h' : Found l p k') : k = k' := by
  obtain ⟨a1, a2, a3⟩ := h
  obtain ⟨b1, b2, b3⟩ := h'
  rcases Nat.lt_trichotomy k k' with hlt | he | hgt
  · have := b2 k hlt; have := a3 k (Nat.le_refl _) (by omega); omega
  · exact he
  · have := a2 k' hgt; have := b3 k' (Nat.le_refl _) (by omega); omega

theorem exists_found {l : List (Int × Int)} (hg : Good l) (p : Int) : ∃ k, Found l p k := by
  induction l with
  | nil => exact ⟨0, by simp, by omega, by simp⟩
  | cons e l ih =>
    by_cases hp : e.1 < p
    · obtain ⟨k, h1, h2, h3⟩ := ih hg.tail
      refine ⟨k + 1, by simp; omega, fun i hi => ?_, fun i hi hl => ?_⟩
      · cases i with
        | zero => simpa [eP] using hp
        | succ i => simpa [eP] using h2 i (by omega)
      · cases i with
        | zero => omega
        | succ i => simpa [eP] using h3 i (by omega) (by simpa using hl)
    · refine ⟨0, by omega, by omega, fun i _ hl => ?_⟩
      cases i with
      | zero => have : eP (e :: l) 0 = e.1 := rfl; omega
      | succ i =>
        have := hg.lt (show 0 < i + 1 by omega) hl
        have h0 : eP (e :: l) 0 = e.1 := rfl
        omega

theorem low_all {l : List (Int × Int)} {p : Int} {y f : Nat} (hg : Good l) (hy : y < f) (hf : f ≤ l.length) (h : ∀ k, y ≤ k → k < f → eP l k < p) : ∀ i, i < f → eP l i < p := by
  intro i hi
  by_cases hiy : y ≤ i
  · exact h i hiy hi
  · have := hg.lt (show i < y by omega) (by omega)
    have := h y (Nat.le_refl _) hy
    omega

/-- The last step of the doubling search, searched: where it ends in the whole list. -/
theorem found_part {l : List (Int × Int)} {p : Int} {f n k : Nat} (hg : Good l) (hl : f + n ≤ l.length) (hlow : ∀ i, i < f → eP l i < p)
    (hup : f + n = l.length ∨ (0 < n ∧ p ≤ eP l (f + n - 1))) (h : Found ((l.drop f).take n) p k) : Found l p (f + k) := by
  have hlen : ((l.drop f).take n).length = n := by simp; omega
  have he : ∀ i, i < n → eP ((l.drop f).take n) i = eP l (f + i) := fun i hi => by simp [eP, List.getD, hi]
  obtain ⟨h1, h2, h3⟩ := h
  rw [hlen] at h1 h3
  refine ⟨by omega, fun i hi => ?_, fun i hi hil => ?_⟩
  · by_cases hif : i < f
    · exact hlow i hif
    · have := h2 (i - f) (by omega)
      rw [he _ (by omega), show f + (i - f) = i by omega] at this
      exact this
  · by_cases hin : i < f + n
    · have := h3 (i - f) (by omega) (by omega)
      rw [he _ (by omega), show f + (i - f) = i by omega] at this
      exact this
    · rcases hup with hup | ⟨h0, hup⟩
      · omega
      · have := hg.lt (show f + n - 1 < i by omega) hil
        omega

/-- One more, in 64 bits. -/
def inc (n : Int) : Int := (n + 1) % 18446744073709551616

/-- What Tick makes of the entries, p's place being k. -/
def tickL (l : List (Int × Int)) (p : Int) (k : Nat) : List (Int × Int) :=
  if k < l.length ∧ eP l k = p then l.set k (p, inc (eN l k)) else l.take k ++ (p, 1) :: l.drop k

theorem set_at (A B : List (Int × Int)) (e f : Int × Int) : (A ++ e :: B).set A.length f = A ++ f :: B := by
  rw [List.set_append_right _ _ (Nat.le_refl _), Nat.sub_self, List.set_cons_zero]

/-- The inserted entry's count is set. -/
theorem tick_list (l L : List (Int × Int)) (p q : Int) (k n : Nat) (hk : k ≤ l.length) (hn : n = l.length + 1) (htk : L.take n = l.take k ++ (p, q) :: l.drop k) : L.set k (p, 1) = (l.take k ++ (p, 1) :: l.drop k) ++ L.drop n := by
  have e : L = l.take k ++ (p, q) :: l.drop k ++ L.drop n := by rw [← htk, List.take_append_drop]
  have hlen : (l.take k).length = k := by simp; omega
  conv => lhs; rw [e]
  rw [List.append_assoc, List.cons_append]
  have := set_at (l.take k) (l.drop k ++ L.drop n) (p, q) (p, 1)
  rw [hlen] at this
  rw [this]
  simp

theorem eP_take (l : List (Int × Int)) (n i : Nat) (h : i < n) : eP (l.take n) i = eP l i := by simp [eP, List.getD, h]
theorem eN_take (l : List (Int × Int)) (n i : Nat) (h : i < n) : eN (l.take n) i = eN l i := by simp [eN, List.getD, h]

end Go.Proofs.Qxb6604789a
