/-
  THE PLAIN MATHEMATICS of a written number: the automaton walks over it. No Go in sight.
-/
import Derived.Test.Qxb6605189aNPlain
namespace Go.Proofs.Qxb6605189a

/-- The automaton goes from s over l to t. -/
def goes (s : Nat) (l : List Int) (t : Nat) : Prop :=
  match l with
  | [] => s = t
  | c :: l => nstep s c ≠ 9 ∧ goes (nstep s c) l t

theorem goes_append {s t u : Nat} {l m : List Int} (h : goes s l t) (k : goes t m u) : goes s (l ++ m) u := by
  induction l generalizing s with
  | nil => have e : s = t := h; subst e; exact k
  | cons c l ih => exact ⟨h.1, ih h.2⟩

theorem acc_goes {s t : Nat} {l : List Int} (h : goes s l t) (r : List Int) : acc s (l ++ r) = (acc t r).map (· + l.length) := by
  induction l generalizing s with
  | nil => have e : s = t := h; subst e; cases h9 : acc s r <;> simp [h9]
  | cons c l ih =>
    rw [List.cons_append, acc_cons, if_neg h.1, ih h.2]
    cases acc t r <;> simp [Nat.add_assoc]

/-- The digits of a number written in decimal. -/
def Dec (ds : List Int) : Prop := ∃ d l, ds = d :: l ∧ dg d = true ∧ (∀ c ∈ l, dg c = true) ∧ (l = [] ∨ nz d = true)

theorem goes_digits {s : Nat} (hs : s = 3 ∨ s = 5 ∨ s = 8) {l : List Int} (h : ∀ c ∈ l, dg c = true) : goes s l s := by
  induction l with
  | nil => exact rfl
  | cons c l ih =>
    have hc := h c (by simp)
    have e : nstep s c = s := by rcases hs with rfl | rfl | rfl <;> simp [nstep, hc]
    refine ⟨by rw [e]; omega, ?_⟩
    rw [e]
    exact ih fun x hx => h x (by simp [hx])

theorem eq48_or_nz {d : Int} (h : dg d = true) : d = 48 ∨ nz d = true := by
  simp [dg, nz] at *; omega

/-- Over the integer part. -/
theorem dec_int {s : Nat} (hs : s = 0 ∨ s = 1) {ds : List Int} (h : Dec ds) : ∃ t, (t = 2 ∨ t = 3) ∧ goes s ds t := by
  obtain ⟨d, l, rfl, hd, hl, hz⟩ := h
  rcases eq48_or_nz hd with rfl | hn
  · rcases hz with rfl | hz
    · exact ⟨2, Or.inl rfl, by rcases hs with rfl | rfl <;> simp [goes, nstep]⟩
    · simp [nz] at hz
  · have h45 : ¬ d = 45 := by simp [nz] at hn; omega
    have h48 : ¬ d = 48 := by simp [nz] at hn; omega
    have e : nstep s d = 3 := by rcases hs with rfl | rfl <;> simp [nstep, h45, h48, hn]
    refine ⟨3, Or.inr rfl, by rw [e]; omega, ?_⟩
    rw [e]
    exact goes_digits (Or.inl rfl) hl

/-- Over the fraction, over the exponent. -/
theorem dec_frac {ds : List Int} (h : Dec ds) : goes 4 ds 5 := by
  obtain ⟨d, l, rfl, hd, hl, hz⟩ := h
  have e : nstep 4 d = 5 := by simp [nstep, hd]
  refine ⟨by rw [e]; omega, ?_⟩
  rw [e]
  exact goes_digits (Or.inr (Or.inl rfl)) hl
theorem dec_exp {s : Nat} (hs : s = 6 ∨ s = 7) {ds : List Int} (h : Dec ds) : goes s ds 8 := by
  obtain ⟨d, l, rfl, hd, hl, hz⟩ := h
  have hsg : sg d = false := by simp [dg, sg] at *; omega
  have e : nstep s d = 8 := by rcases hs with rfl | rfl <;> simp [nstep, hd, hsg]
  refine ⟨by rw [e]; omega, ?_⟩
  rw [e]
  exact goes_digits (Or.inr (Or.inr rfl)) hl
theorem goes_dot {s : Nat} (hs : s = 2 ∨ s = 3) : goes s [46] 4 := by
  rcases hs with rfl | rfl <;> simp [goes, nstep, dg]
theorem goes_e {s : Nat} (hs : s = 2 ∨ s = 3 ∨ s = 5) {c : Int} (hc : c = 101 ∨ c = 69) : goes s [c] 6 := by
  rcases hs with rfl | rfl | rfl <;> rcases hc with rfl | rfl <;> simp [goes, nstep, dg, ex]
theorem goes_sign {c : Int} (hc : c = 43 ∨ c = 45) : goes 6 [c] 7 := by
  rcases hc with rfl | rfl <;> simp [goes, nstep, sg]
theorem goes_minus : goes 0 [45] 1 := by simp [goes, nstep]

/-- A written number before a comma is read to its end. -/
theorem rdN_written {s : Nat} (hs : s = 2 ∨ s = 3 ∨ s = 5 ∨ s = 8) {num : List Int} (h : goes 0 num s) (P S : List Int) :
    ans P.length (rdN ((P ++ num ++ [44] ++ S).drop P.length)) = (P ++ num).length := by
  have e : (P ++ num ++ [44] ++ S).drop P.length = num ++ (44 :: S) := by simp
  have h9 : nstep s 44 = 9 := by rcases hs with rfl | rfl | rfl | rfl <;> simp [nstep, dg, ex]
  have hf : fin s = true := by rcases hs with rfl | rfl | rfl | rfl <;> rfl
  rw [e, ← acc0, acc_goes h, acc_cons, if_pos h9, if_pos hf]
  simp [ans]

/-! ### Writing the digits from the last -/
/-- j digits have been written of a number, u is left. -/
structure Wr (j u : Nat) (ds : List Int) : Prop where
  len : ds.length = j
  dig : ∀ c ∈ ds, dg c = true
  room : u < 10 ^ (20 - j)
  left : j = 0 ∨ u ≠ 0
  lt : j < 20

theorem dg_of (u : Nat) : dg (48 + (u % 10 : Nat)) = true := by simp [dg]; omega

theorem Wr.more {j u : Nat} {ds : List Int} (h : Wr j u ds) (h0 : u / 10 ≠ 0) : Wr (j + 1) (u / 10) ((48 + (u % 10 : Nat) : Int) :: ds) := by
  have hr := h.room
  have hlt := h.lt
  have hj : j + 1 < 20 := by
    rcases Nat.lt_or_ge (j + 1) 20 with h1 | h1
    · exact h1
    · have : 20 - j = 1 := by omega
      rw [this] at hr
      omega
  refine ⟨by simp [h.len], ?_, ?_, Or.inr h0, hj⟩
  · intro c hc
    rcases List.mem_cons.1 hc with rfl | hc
    · exact dg_of u
    · exact h.dig c hc
  · have e : 20 - j = (20 - (j + 1)) + 1 := by omega
    rw [e, Nat.pow_succ] at hr
    omega

theorem Wr.done {j u : Nat} {ds : List Int} (h : Wr j u ds) (h0 : u / 10 = 0) : Dec ((48 + (u % 10 : Nat) : Int) :: ds) := by
  refine ⟨_, ds, rfl, dg_of u, h.dig, ?_⟩
  rcases h.left with hj | hu
  · left; exact List.eq_nil_of_length_eq_zero (by rw [h.len]; exact hj)
  · right; simp [nz]; omega

theorem Wr.start {u : Nat} (h : u ≤ 18446744073709551615) : Wr 0 u [] := ⟨rfl, by simp, by simp; omega, Or.inl rfl, by omega⟩

end Go.Proofs.Qxb6605189a
