/-
  THE PLAIN MATHEMATICS of JSON's numbers: the automaton, and the reader by parts. No Go in sight.
-/
namespace Go.Proofs.Qxb6605189a

def dg (c : Int) : Bool := decide (48 ≤ c ∧ c ≤ 57)
def nz (c : Int) : Bool := decide (49 ≤ c ∧ c ≤ 57)
def ex (c : Int) : Bool := decide (c = 101 ∨ c = 69)
def sg (c : Int) : Bool := decide (c = 43 ∨ c = 45)

/-- One step of the automaton; 9: no move. -/
def nstep (s : Nat) (c : Int) : Nat :=
  match s with
  | 0 => if c = 45 then 1 else if c = 48 then 2 else if nz c then 3 else 9
  | 1 => if c = 48 then 2 else if nz c then 3 else 9
  | 2 => if c = 46 then 4 else if ex c then 6 else 9
  | 3 => if dg c then 3 else if c = 46 then 4 else if ex c then 6 else 9
  | 4 => if dg c then 5 else 9
  | 5 => if dg c then 5 else if ex c then 6 else 9
  | 6 => if sg c then 7 else if dg c then 8 else 9
  | 7 => if dg c then 8 else 9
  | 8 => if dg c then 8 else 9
  | _ => 9

/-- The run: the state in which it has no move, and how many bytes it took. -/
def nrun (s : Nat) : List Int → Nat × Nat
  | [] => (s, 0)
  | c :: l => if nstep s c = 9 then (s, 0) else ((nrun (nstep s c) l).1, (nrun (nstep s c) l).2 + 1)

def fin (s : Nat) : Bool := decide (s = 2 ∨ s = 3 ∨ s = 5 ∨ s = 8)

/-- How many bytes the number takes. -/
def acc (s : Nat) (l : List Int) : Option Nat := if fin (nrun s l).1 then some (nrun s l).2 else none

/-- How many digits stand at the head. -/
def runD : List Int → Nat
  | [] => 0
  | c :: l => if dg c then runD l + 1 else 0

/-- digitsEnd. -/
def digs (l : List Int) : Option Nat := if runD l = 0 then none else some (runD l)

/-- What the reader does behind the integer part and the fraction. -/
def rdE (l : List Int) : Option Nat :=
  match l with
  | [] => some 0
  | c :: t => if ex c then
      (match t with
        | [] => none
        | d :: t' => if sg d then (digs t').map (· + 2) else (digs t).map (· + 1))
    else some 0

def rdF (l : List Int) : Option Nat :=
  match l with
  | [] => some 0
  | c :: t => if c = 46 then (digs t).bind fun n => (rdE (t.drop n)).map (· + (n + 1)) else rdE l

/-- Behind the sign. -/
def rdI (l : List Int) : Option Nat :=
  match l with
  | [] => none
  | c :: t => if c = 48 then (rdF t).map (· + 1) else if nz c then (rdF (l.drop (runD l))).map (· + runD l) else none

/-- checkNumber. -/
def rdN (l : List Int) : Option Nat :=
  match l with
  | [] => none
  | c :: t => if c = 45 then (rdI t).map (· + 1) else rdI l

theorem rdE_cons (c : Int) (t : List Int) : rdE (c :: t) = if ex c then (match t with | [] => none | d :: t' => if sg d then (digs t').map (· + 2) else (digs t).map (· + 1)) else some 0 := by
  cases t <;> rfl

/-! ### The two are one -/
theorem acc_cons (s : Nat) (c : Int) (l : List Int) : acc s (c :: l) = if nstep s c = 9 then (if fin s then some 0 else none) else (acc (nstep s c) l).map (· + 1) := by
  unfold acc
  rw [nrun]
  by_cases h : nstep s c = 9
  · rw [if_pos h, if_pos h]
  · rw [if_neg h, if_neg h]
    by_cases hf : fin (nrun (nstep s c) l).1 = true
    · rw [if_pos hf, if_pos hf]; rfl
    · rw [if_neg hf, if_neg hf]; rfl

theorem acc_nil (s : Nat) : acc s [] = if fin s then some 0 else none := rfl

theorem acc8 (l : List Int) : acc 8 l = some (runD l) := by
  induction l with
  | nil => rfl
  | cons c l ih =>
    rw [acc_cons, runD]
    by_cases h : dg c = true
    · rw [show nstep 8 c = 8 by simp [nstep, h], if_neg (by decide), ih, if_pos h]; rfl
    · rw [show nstep 8 c = 9 by simp [nstep, h], if_pos rfl, if_neg h]; rfl

theorem acc7 (l : List Int) : acc 7 l = digs l := by
  cases l with
  | nil => rfl
  | cons c l =>
    rw [acc_cons, digs, runD]
    by_cases h : dg c = true
    · rw [show nstep 7 c = 8 by simp [nstep, h], if_neg (by decide), acc8, if_pos h, if_neg (by omega)]; rfl
    · rw [show nstep 7 c = 9 by simp [nstep, h], if_pos rfl, if_neg h, if_pos rfl]; rfl

theorem acc6 (l : List Int) : acc 6 l = match l with | [] => none | d :: t => if sg d then (digs t).map (· + 1) else digs l := by
  cases l with
  | nil => rfl
  | cons c l =>
    rw [acc_cons]
    by_cases hs : sg c = true
    · rw [show nstep 6 c = 7 by simp [nstep, hs], if_neg (by decide), acc7]
      simp only [hs, if_true]
    · simp only [hs, if_false, Bool.false_eq_true]
      show _ = digs (c :: l)
      rw [digs, runD]
      by_cases h : dg c = true
      · rw [show nstep 6 c = 8 by simp [nstep, hs, h], if_neg (by decide), acc8, if_pos h, if_neg (by omega)]; rfl
      · rw [show nstep 6 c = 9 by simp [nstep, hs, h], if_pos rfl, if_neg h, if_pos rfl]; rfl

theorem not_ex_of_dg {c : Int} (h : dg c = true) : ex c = false := by
  simp [dg, ex] at *; omega
theorem not_dot_of_dg {c : Int} (h : dg c = true) : c ≠ 46 := by
  simp [dg] at *; omega

theorem rdE_eq (l : List Int) (c : Int) (h : ex c = true) : rdE (c :: l) = (acc 6 l).map (· + 1) := by
  rw [rdE_cons, if_pos h, acc6]
  cases l with
  | nil => rfl
  | cons d t =>
    by_cases hs : sg d = true
    · simp only [hs, if_true]
      cases digs t <;> rfl
    · simp only [hs]
      rfl

theorem rdE_no (l : List Int) (c : Int) (h : ex c = false) : rdE (c :: l) = some 0 := by
  rw [rdE_cons, if_neg (by rw [h]; decide)]

theorem acc5 (l : List Int) : acc 5 l = (rdE (l.drop (runD l))).map (· + runD l) := by
  induction l with
  | nil => rfl
  | cons c l ih =>
    rw [acc_cons, runD]
    by_cases h : dg c = true
    · rw [show nstep 5 c = 5 by simp [nstep, h], if_neg (by decide), ih, if_pos h, List.drop_succ_cons]
      cases rdE (l.drop (runD l)) <;> simp [Nat.add_assoc]
    · rw [if_neg h, List.drop_zero]
      by_cases he : ex c = true
      · rw [show nstep 5 c = 6 by simp [nstep, h, he], if_neg (by decide), rdE_eq l c he]
        cases acc 6 l <;> rfl
      · rw [show nstep 5 c = 9 by simp [nstep, h, he], if_pos rfl, rdE_no l c (by simpa using he)]; rfl

theorem acc4 (l : List Int) : acc 4 l = (digs l).bind fun n => (rdE (l.drop n)).map (· + n) := by
  cases l with
  | nil => rfl
  | cons c l =>
    rw [acc_cons, digs, runD]
    by_cases h : dg c = true
    · rw [show nstep 4 c = 5 by simp [nstep, h], if_neg (by decide), acc5, if_pos h, if_neg (by omega)]
      simp only [Option.bind_some, List.drop_succ_cons]
      cases rdE (l.drop (runD l)) <;> simp [Nat.add_assoc]
    · rw [show nstep 4 c = 9 by simp [nstep, h], if_pos rfl, if_neg h, if_pos rfl]; rfl

theorem rdF_dot (l : List Int) : rdF (46 :: l) = (acc 4 l).map (· + 1) := by
  rw [rdF, if_pos rfl, acc4]
  cases digs l with
  | none => rfl
  | some n =>
    simp only [Option.bind_some]
    cases rdE (l.drop n) <;> simp [Nat.add_assoc]

theorem acc2 (l : List Int) : acc 2 l = rdF l := by
  cases l with
  | nil => rfl
  | cons c l =>
    rw [acc_cons]
    by_cases hd : c = 46
    · subst hd
      rw [show nstep 2 46 = 4 from rfl, if_neg (by decide), rdF_dot]
    · rw [rdF, if_neg hd]
      by_cases he : ex c = true
      · rw [show nstep 2 c = 6 by simp [nstep, hd, he], if_neg (by decide), rdE_eq l c he]
      · rw [show nstep 2 c = 9 by simp [nstep, hd, he], if_pos rfl, rdE_no l c (by simpa using he)]; rfl

theorem acc3 (l : List Int) : acc 3 l = (rdF (l.drop (runD l))).map (· + runD l) := by
  induction l with
  | nil => rfl
  | cons c l ih =>
    rw [acc_cons, runD]
    by_cases h : dg c = true
    · rw [show nstep 3 c = 3 by simp [nstep, h], if_neg (by decide), ih, if_pos h, List.drop_succ_cons]
      cases rdF (l.drop (runD l)) <;> simp [Nat.add_assoc]
    · rw [if_neg h, List.drop_zero]
      by_cases hd : c = 46
      · subst hd
        rw [show nstep 3 46 = 4 from rfl, if_neg (by decide), rdF_dot]
        cases acc 4 l <;> rfl
      · rw [rdF, if_neg hd]
        by_cases he : ex c = true
        · rw [show nstep 3 c = 6 by simp [nstep, h, hd, he], if_neg (by decide), rdE_eq l c he]
          cases acc 6 l <;> rfl
        · rw [show nstep 3 c = 9 by simp [nstep, h, hd, he], if_pos rfl, rdE_no l c (by simpa using he)]; rfl

theorem dg_of_nz {c : Int} (h : nz c = true) : dg c = true := by simp [dg, nz] at *; omega

theorem acc1 (l : List Int) : acc 1 l = rdI l := by
  cases l with
  | nil => rfl
  | cons c l =>
    rw [acc_cons, rdI]
    by_cases h0 : c = 48
    · subst h0
      rw [show nstep 1 48 = 2 from rfl, if_neg (by decide), acc2, if_pos rfl]
    · rw [if_neg h0]
      by_cases hn : nz c = true
      · have hr : runD (c :: l) = runD l + 1 := by rw [runD, if_pos (dg_of_nz hn)]
        rw [show nstep 1 c = 3 by simp [nstep, h0, hn], if_neg (by decide), acc3, if_pos hn, hr, List.drop_succ_cons]
        cases rdF (l.drop (runD l)) <;> simp [Nat.add_assoc]
      · rw [show nstep 1 c = 9 by simp [nstep, h0, hn], if_pos rfl, if_neg hn]; rfl

/-- The reader is the automaton. -/
theorem acc0 (l : List Int) : acc 0 l = rdN l := by
  cases l with
  | nil => rfl
  | cons c l =>
    rw [rdN]
    by_cases hm : c = 45
    · subst hm
      rw [acc_cons, show nstep 0 45 = 1 from rfl, if_neg (by decide), acc1, if_pos rfl]
    · rw [if_neg hm, ← acc1, acc_cons, acc_cons]
      have : nstep 0 c = nstep 1 c := by simp [nstep, hm]
      rw [this]
      rfl

/-- An answer as Go gives it: the end, or -1. -/
def ans (k : Nat) (o : Option Nat) : Int := match o with | some r => (k : Int) + r | none => -1

/-- Byte c stands at place k. -/
def atc (T : List Int) (k : Nat) (c : Int) : Bool := decide (k < T.length ∧ T.getD k 0 = c)

theorem drop_at {T : List Int} {k : Nat} (h : k < T.length) : T.drop k = T.getD k 0 :: T.drop (k + 1) := by
  rw [List.drop_eq_getElem_cons h]; simp [List.getD, h]

theorem ans_map (k m : Nat) (o : Option Nat) : ans k (o.map (· + m)) = ans (k + m) o := by
  cases o with
  | none => rfl
  | some r => simp [ans]; omega

theorem runD_step {T : List Int} {j : Nat} (h : j < T.length) (hd : dg (T.getD j 0) = true) : runD (T.drop j) = runD (T.drop (j + 1)) + 1 := by
  rw [drop_at h, runD, if_pos hd]
theorem runD_stop {T : List Int} {j : Nat} (h : j < T.length → dg (T.getD j 0) = false) : runD (T.drop j) = 0 := by
  by_cases hj : j < T.length
  · rw [drop_at hj, runD, if_neg (by rw [h hj]; decide)]
  · rw [List.drop_eq_nil_of_le (by omega)]; rfl
theorem runD_le (l : List Int) : runD l ≤ l.length := by
  induction l with
  | nil => exact Nat.le_refl _
  | cons c l ih => rw [runD]; split <;> simp <;> omega

/-! ### The steps of checkNumber -/
theorem stepN {T : List Int} {k : Nat} (h : atc T k 45 = true) : ans k (rdN (T.drop k)) = ans (k + 1) (rdI (T.drop (k + 1))) := by
  obtain ⟨h1, h2⟩ := of_decide_eq_true h
  rw [drop_at h1, rdN, if_pos h2, ans_map]
theorem stepN' {T : List Int} {k : Nat} (h : atc T k 45 = false) : ans k (rdN (T.drop k)) = ans k (rdI (T.drop k)) := by
  by_cases hk : k < T.length
  · have : ¬ T.getD k 0 = 45 := fun e => of_decide_eq_false h ⟨hk, e⟩
    rw [drop_at hk, rdN, if_neg this]
  · rw [List.drop_eq_nil_of_le (by omega)]; rfl

theorem stepI0 {T : List Int} {k : Nat} (h : atc T k 48 = true) : ans k (rdI (T.drop k)) = ans (k + 1) (rdF (T.drop (k + 1))) := by
  obtain ⟨h1, h2⟩ := of_decide_eq_true h
  rw [drop_at h1, rdI, if_pos h2, ans_map]
theorem stepI1 {T : List Int} {k : Nat} (hk : k < T.length) (hn : nz (T.getD k 0) = true) : ans k (rdI (T.drop k)) = ans (k + runD (T.drop k)) (rdF (T.drop (k + runD (T.drop k)))) ∧ 0 < runD (T.drop k) := by
  have h0 : ¬ T.getD k 0 = 48 := by have := of_decide_eq_true hn; omega
  have hr := runD_step hk (dg_of_nz hn)
  refine ⟨?_, by omega⟩
  have e : rdI (T.drop k) = (rdF ((T.drop k).drop (runD (T.drop k)))).map (· + runD (T.drop k)) := by
    conv => lhs; rw [drop_at hk]
    rw [rdI, if_neg h0, if_pos hn, ← drop_at hk]
  rw [e, ans_map, List.drop_drop]
theorem stepI9 {T : List Int} {k : Nat} (h : atc T k 48 = false) (hn : k < T.length → nz (T.getD k 0) = false) : ans k (rdI (T.drop k)) = -1 := by
  by_cases hk : k < T.length
  · have h0 : ¬ T.getD k 0 = 48 := fun e => of_decide_eq_false h ⟨hk, e⟩
    rw [drop_at hk, rdI, if_neg h0, if_neg (by rw [hn hk]; decide)]; rfl
  · rw [List.drop_eq_nil_of_le (by omega)]; rfl

theorem stepF {T : List Int} {k : Nat} (h : atc T k 46 = true) :
    (runD (T.drop (k + 1)) = 0 → ans k (rdF (T.drop k)) = -1) ∧ (runD (T.drop (k + 1)) ≠ 0 → ans k (rdF (T.drop k)) = ans (k + 1 + runD (T.drop (k + 1))) (rdE (T.drop (k + 1 + runD (T.drop (k + 1)))))) := by
  obtain ⟨h1, h2⟩ := of_decide_eq_true h
  rw [drop_at h1, rdF, if_pos h2, digs]
  refine ⟨fun h0 => by rw [if_pos h0]; rfl, fun h0 => ?_⟩
  rw [if_neg h0, Option.bind_some, ans_map, List.drop_drop]
  congr 1
  omega
theorem stepF' {T : List Int} {k : Nat} (h : atc T k 46 = false) : ans k (rdF (T.drop k)) = ans k (rdE (T.drop k)) := by
  by_cases hk : k < T.length
  · have : ¬ T.getD k 0 = 46 := fun e => of_decide_eq_false h ⟨hk, e⟩
    rw [drop_at hk, rdF, if_neg this]
  · rw [List.drop_eq_nil_of_le (by omega)]; rfl

/-- Behind the e: the sign's place. -/
theorem stepE {T : List Int} {k : Nat} (hk : k < T.length) (he : ex (T.getD k 0) = true) {j : Nat} (hj : (j = k + 2 ∧ k + 1 < T.length ∧ sg (T.getD (k + 1) 0) = true) ∨ (j = k + 1 ∧ (k + 1 < T.length → sg (T.getD (k + 1) 0) = false))) :
    (runD (T.drop j) = 0 → ans k (rdE (T.drop k)) = -1) ∧ (runD (T.drop j) ≠ 0 → ans k (rdE (T.drop k)) = (j : Int) + runD (T.drop j)) := by
  rw [drop_at hk, rdE_cons, if_pos he]
  rcases hj with ⟨rfl, h1, h2⟩ | ⟨rfl, h1⟩
  · rw [drop_at h1]
    simp only [h2, if_true]
    rw [digs]
    refine ⟨fun h0 => by rw [if_pos h0]; rfl, fun h0 => ?_⟩
    rw [if_neg h0, ans_map]
    rfl
  · by_cases h2 : k + 1 < T.length
    · have h3 := h1 h2
      rw [drop_at h2]
      simp only [h3, Bool.false_eq_true, if_false]
      rw [digs]
      refine ⟨fun h0 => by rw [if_pos h0]; rfl, fun h0 => ?_⟩
      rw [if_neg h0, ans_map]
      rfl
    · rw [List.drop_eq_nil_of_le (show T.length ≤ k + 1 by omega)]
      exact ⟨fun _ => rfl, fun h0 => absurd rfl h0⟩
theorem stepE' {T : List Int} {k : Nat} (h : k < T.length → ex (T.getD k 0) = false) : ans k (rdE (T.drop k)) = k := by
  by_cases hk : k < T.length
  · rw [drop_at hk, rdE_cons, if_neg (by rw [h hk]; decide)]; simp [ans]
  · rw [List.drop_eq_nil_of_le (by omega)]; simp [ans, rdE]

end Go.Proofs.Qxb6605189a
