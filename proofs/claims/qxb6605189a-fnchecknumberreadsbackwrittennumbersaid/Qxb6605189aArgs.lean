/-
  A SLICE OF BYTES THAT CAME IN, as the shells tell it.
-/
import Derived.Test.Qxb6605189aMem
import Derived.ProofKit
import Derived.OpenShut
namespace Go.Proofs.Qxb6605189a
open Go.ChangeShapes Go.WideShapes Go.ChangeAt Go.RowKit

theorem wf_u8 {x : Int} (h : (Lit.int .u8 x).wf = true) : 0 ≤ x ∧ x ≤ 255 := by
  simp [Lit.wf, IntKind.min, IntKind.max, IntKind.signed, IntKind.bits] at h
  omega
theorem wf_u16 {x : Int} (h : (Lit.int .u16 x).wf = true) : 0 ≤ x ∧ x ≤ 65535 := by
  simp [Lit.wf, IntKind.min, IntKind.max, IntKind.signed, IntKind.bits] at h
  omega
theorem wf_i16 {x : Int} (h : (Lit.int .i16 x).wf = true) : -32768 ≤ x ∧ x ≤ 32767 := by
  simp [Lit.wf, IntKind.min, IntKind.max, IntKind.signed, IntKind.bits] at h
  omega
theorem wf_u32 {x : Int} (h : (Lit.int .u32 x).wf = true) : 0 ≤ x ∧ x ≤ 4294967295 := by
  simp [Lit.wf, IntKind.min, IntKind.max, IntKind.signed, IntKind.bits] at h
  omega
theorem wf_i64 {x : Int} (h : (Lit.int .i64 x).wf = true) : -9223372036854775808 ≤ x ∧ x ≤ 9223372036854775807 := by
  simp [Lit.wf, IntKind.min, IntKind.max, IntKind.signed, IntKind.bits] at h
  omega

theorem bcame_of {w : World} {a : Option Addr} {len cap : Nat} {zs : List Int}
    (h : (a = none ∧ len = 0 ∧ cap = 0 ∧ zs = []) ∨ ∃ x, a = some x ∧ len ≤ cap ∧ cap ≤ maxLen ∧ zs.length = cap ∧ (∀ i, i < zs.length → w.cell? (x.add i) = some (.int .u8 (zs.getD i 0))) ∧ ∀ n ∈ zs, (Lit.int .u8 n).wf = true) : BCame w a len cap := by
  rcases h with ⟨rfl, rfl, rfl, rfl⟩ | ⟨x, rfl, hl, hm, hz, hc, hw⟩
  · exact ⟨Nat.le_refl _, Nat.zero_le _, fun _ => rfl, [], rfl, by simp, fun _ => ⟨by simp, fun h => absurd rfl h⟩⟩
  · have hlen : (zs.take len).length = len := by simp; omega
    refine ⟨hl, hm, fun h => (by cases h), zs.take len, hlen, fun c hc => wf_u8 (hw c (List.mem_of_mem_take hc)), fun hn => ⟨by omega, fun hne => ?_⟩⟩
    have h0 : 0 < zs.length := by
      rcases Nat.eq_zero_or_pos zs.length with h0 | h0
      · exact absurd (by rw [List.eq_nil_of_length_eq_zero h0]; exact List.take_nil) hne
      · exact h0
    obtain ⟨b, off, spot⟩ := x
    have hspot : spot = none := by simpa [Addr.add] using World.cell?_spot (hc 0 h0)
    subst hspot
    refine ⟨b, off, rfl, fun i hi => ?_⟩
    have hi' : i < len ∧ i < zs.length := by rw [hlen] at hi; omega
    have e : (zs.take len).getD i 0 = zs.getD i 0 := by simp [List.getD, hi'.1]
    rw [e]
    have := hc i hi'.2
    rwa [add_plain] at this

end Go.Proofs.Qxb6605189a
