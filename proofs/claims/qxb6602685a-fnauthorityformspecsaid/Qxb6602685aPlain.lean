/-
  STRINGS AS BYTES; the grammar of an authority, plainly.
-/
import Derived.Test.Qxb6602685aRows
import Derived.WalkKit
import Derived.WalkSpells
import Derived.WalkLawsBesides
import Derived.Outline
import Derived.Below
import Derived.RowKit3
import Derived.Deep.DeepCutAuto
namespace Go.Proofs.Qxb6602685a
open Go.RowKit

/-- Byte k of s. -/
def bt (s : ByteArray) (k : Nat) : Int := if h : k < s.size then ((s[k]'h).toNat : Int) else 0

theorem bt_at {s : ByteArray} {k : Nat} (h : k < s.size) : ((s[k]'h).toNat : Int) = bt s k := by
  unfold bt; rw [dif_pos h]

theorem bt_bd (s : ByteArray) (k : Nat) : 0 ≤ bt s k ∧ bt s k ≤ 255 := by
  unfold bt
  split
  · have := (s[k]).toNat_lt; omega
  · omega

theorem bt_list (s : ByteArray) (c : Int) : (∃ j, j < s.size ∧ bt s j = c) ↔ c ∈ s.data.toList.map (fun b => (b.toNat : Int)) := by
  constructor
  · rintro ⟨j, hj, rfl⟩
    rw [← bt_at hj]
    refine List.mem_map.2 ⟨s[j], ?_, rfl⟩
    have : s[j] = s.data.toList[j]'(by simpa using hj) := rfl
    rw [this]
    exact List.getElem_mem _
  · intro h
    obtain ⟨b, hb, rfl⟩ := List.mem_map.1 h
    obtain ⟨j, hj, rfl⟩ := List.getElem_of_mem hb
    have hj' : j < s.size := by simpa using hj
    exact ⟨j, hj', (bt_at hj').symm⟩

theorem size_cut (s : ByteArray) {a b : Nat} (hb : b ≤ s.size) : (s.extract a b).size = b - a := by
  simp [ByteArray.size_extract]; omega

theorem bt_cut (s : ByteArray) {a b k : Nat} (hb : b ≤ s.size) (hk : k < b - a) : bt (s.extract a b) k = bt s (a + k) := by
  have h1 : k < (s.extract a b).size := by rw [size_cut s hb]; exact hk
  have h2 : a + k < s.size := by omega
  rw [← bt_at h1, ← bt_at h2, ByteArray.getElem_extract]

/-- A digit; a byte of a registered name. -/
def isD (c : Int) : Bool := decide (48 ≤ c ∧ c ≤ 57)
def regB (c : Int) : Bool :=
  decide (c = 37 ∨ (97 ≤ c ∧ c ≤ 122) ∨ (65 ≤ c ∧ c ≤ 90) ∨ (48 ≤ c ∧ c ≤ 57) ∨ c = 45 ∨ c = 46 ∨ c = 95 ∨ c = 126 ∨ c = 33 ∨ c = 36 ∨ c = 38 ∨ c = 39 ∨ c = 40 ∨ c = 41 ∨ c = 42 ∨ c = 43 ∨ c = 44 ∨ c = 59 ∨ c = 61)

/-- The host of m bytes is in brackets. -/
def lit (f : Nat → Int) (m : Nat) : Prop := 2 < m ∧ f 0 = 91 ∧ f (m - 1) = 93

/-- The host of m bytes is good. -/
def hostOk (f : Nat → Int) (m : Nat) : Prop :=
  0 < m ∧ (lit f m → ∀ j, j + 2 < m → regB (f (j + 1)) = true ∨ f (j + 1) = 58) ∧ (¬ lit f m → ∀ j, j < m → regB (f j) = true)

/-- n bytes are an authority: a host, a colon, a port. -/
def Auth (f : Nat → Int) (n : Nat) : Prop :=
  ∃ i, i + 1 < n ∧ f i = 58 ∧ (∀ j, i < j → j < n → isD (f j) = true) ∧ hostOk f i

/-- The last colon. -/
def Last (f : Nat → Int) (n i : Nat) : Prop := i < n ∧ f i = 58 ∧ ∀ j, i < j → j < n → f j ≠ 58

theorem not58 {c : Int} (h : isD c = true) : c ≠ 58 := by simp [isD] at h; omega

theorem auth_last {f : Nat → Int} {n i : Nat} (h : Last f n i) : Auth f n ↔ i + 1 < n ∧ (∀ j, i < j → j < n → isD (f j) = true) ∧ hostOk f i := by
  constructor
  · rintro ⟨i', h1, h2, h3, h4⟩
    have e : i' = i := by
      rcases Nat.lt_trichotomy i' i with hl | hl | hl
      · exact absurd h.2.1 (not58 (h3 i hl h.1))
      · exact hl
      · exact absurd h2 (h.2.2 i' hl (by omega))
    subst e
    exact ⟨h1, h3, h4⟩
  · rintro ⟨h1, h3, h4⟩
    exact ⟨i, h1, h.2.1, h3, h4⟩

theorem auth_none {f : Nat → Int} {n : Nat} (h : ∀ j, j < n → f j ≠ 58) : ¬ Auth f n := by
  rintro ⟨i, h1, h2, _⟩
  exact h i (by omega) h2

/-- k is where the run of digits at the end begins. -/
def Run (f : Nat → Int) (n k : Nat) : Prop := k ≤ n ∧ (∀ j, k ≤ j → j < n → isD (f j) = true) ∧ (0 < k → isD (f (k - 1)) = false)

theorem auth_run {f : Nat → Int} {n k : Nat} (h : Run f n k) : Auth f n ↔ k < n ∧ 0 < k ∧ f (k - 1) = 58 ∧ hostOk f (k - 1) := by
  obtain ⟨h1, h2, h3⟩ := h
  constructor
  · rintro ⟨i, a, b, c, d⟩
    have e : k = i + 1 := by
      rcases Nat.lt_trichotomy k (i + 1) with hl | hl | hl
      · exact absurd b (not58 (h2 i (by omega) (by omega)))
      · exact hl
      · have := c (k - 1) (by omega) (by omega)
        rw [h3 (by omega)] at this
        cases this
    subst e
    exact ⟨a, by omega, b, d⟩
  · rintro ⟨a, b, c, d⟩
    exact ⟨k - 1, by omega, c, fun j hj hn => h2 j (by omega) hn, d⟩

theorem iff_bool {a b : Bool} {p : Prop} (ha : a = true ↔ p) (hb : b = true ↔ p) : a = b := by
  cases a <;> cases b <;> simp_all

/-! ### The tables -/
def digitsT : ByteArray := { data := #[48, 49, 50, 51, 52, 53, 54, 55, 56, 57] }
def regT : ByteArray := { data := #[65, 66, 67, 68, 69, 70, 71, 72, 73, 74, 75, 76, 77, 78, 79, 80, 81, 82, 83, 84, 85, 86, 87, 88, 89, 90, 97, 98, 99, 100, 101, 102, 103, 104, 105, 106, 107, 108, 109, 110, 111, 112, 113, 114, 115, 116, 117, 118, 119, 120, 121, 122, 48, 49, 50, 51, 52, 53, 54, 55, 56, 57, 45, 46, 95, 126, 33, 36, 38, 39, 40, 41, 42, 43, 44, 59, 61, 37] }

theorem tab_dig : ((List.range 256).all fun n => (digitsT.data.toList.map (fun b => (b.toNat : Int))).contains (n : Int) == isD (n : Int)) = true := by decide +kernel
theorem tab_reg : ((List.range 256).all fun n => (regT.data.toList.map (fun b => (b.toNat : Int))).contains (n : Int) == regB (n : Int)) = true := by decide +kernel

theorem tab_of {s : ByteArray} {p : Int → Bool} (h : ((List.range 256).all fun n => (s.data.toList.map (fun b => (b.toNat : Int))).contains (n : Int) == p (n : Int)) = true) {c : Int} (h0 : 0 ≤ c) (h1 : c ≤ 255) : (∃ j, j < s.size ∧ bt s j = c) ↔ p c = true := by
  rw [bt_list]
  have h2 := List.all_eq_true.1 h c.toNat (List.mem_range.2 (by omega))
  rw [Int.toNat_of_nonneg h0] at h2
  rw [← beq_iff_eq.1 h2, List.contains_iff_mem]

end Go.Proofs.Qxb6602685a
