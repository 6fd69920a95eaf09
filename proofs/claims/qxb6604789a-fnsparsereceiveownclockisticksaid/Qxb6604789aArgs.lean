/-
  A SLICE OF ENTRIES THAT CAME IN, READ AS DATA: its cells.
-/
import Derived.Test.Qxb6604789aLawCmp
import Derived.ProofKit
import Derived.OpenShut
import Derived.Deep.SlicePairs
import Derived.ChangeOld
namespace Go.Proofs.Qxb6604789a
open Go.ChangeShapes Go.WideShapes Go.ChangeAt Go.RowKit

theorem wf_i64 {x : Int} (h : (Lit.int .i64 x).wf = true) : -9223372036854775808 ≤ x ∧ x ≤ 9223372036854775807 := by
  simp [Lit.wf, IntKind.min, IntKind.max, IntKind.signed, IntKind.bits] at h
  omega
theorem wf_u64 {x : Int} (h : (Lit.int .u64 x).wf = true) : 0 ≤ x ∧ x ≤ 18446744073709551615 := by
  simp [Lit.wf, IntKind.min, IntKind.max, IntKind.signed, IntKind.bits] at h
  omega

theorem came_of {H : Type} {enc : TypeId × Value → H} {W : World} {a : Option Addr} {n cap : Nat} {d : DataW H} {ps : List MemPlace}
    (h : DataW.Trod enc Try.prog W 0 (fun _ => true) true 22 (.slice a n cap) d ps) : Came W a n cap := by
  obtain ⟨fuel, hf⟩ := h
  rcases Go.Deep.open_slice_pairs Try.underlying22 Try.underlying40 (by kernel_rfl) rfl rfl (by kernel_rfl) (by kernel_rfl) hf with ⟨hcs, _⟩ | ⟨x, len, cp, m, k, V0, V1, D0, D1, P0, P1, hcs, _, hl, hm, hmm, _, hx⟩
  · simp [Value.cells] at hcs
    obtain ⟨rfl, rfl, rfl⟩ := hcs
    exact ⟨Nat.le_refl _, Nat.zero_le _, [], rfl, by simp, fun h => absurd rfl h⟩
  · simp [Value.cells] at hcs
    obtain ⟨rfl, rfl, rfl⟩ := hcs
    simp at hmm
    subst hmm
    have each : ∀ i, i < m → ∃ q : Int × Int, V0 i = .int .i64 q.1 ∧ V1 i = .int .u64 q.2 ∧ InR q := by
      intro i hi
      obtain ⟨_, _, t0, t1⟩ := hx i hi
      obtain ⟨p, e0, _, w0⟩ := DataW.trod_int Try.underlying3 t0
      obtain ⟨u, e1, _, w1⟩ := DataW.trod_int Try.underlying35 t1
      simp at e0 e1
      exact ⟨(p, u), e0, e1, (wf_i64 w0).1, (wf_i64 w0).2, (wf_u64 w1).1, (wf_u64 w1).2⟩
    obtain ⟨q, hq⟩ := Go.Deep.choose_lt each
    have hlen : ((List.range n).map q).length = n := by simp
    refine ⟨hl, hm, (List.range n).map q, hlen, fun e he => ?_, fun hn => ?_⟩
    · obtain ⟨i, hi, rfl⟩ := List.mem_map.1 he
      exact (hq i (by have := List.mem_range.1 hi; omega)).2.2
    · obtain ⟨b, off, spot⟩ := x
      have hspot : spot = none := by simpa [Addr.add] using World.cell?_spot (hx 0 (by omega)).1
      subst hspot
      refine ⟨b, off, rfl, fun i hi => ?_⟩
      rw [hlen] at hi
      obtain ⟨c0, c1, _, _⟩ := hx i (by omega)
      obtain ⟨v0, v1, _⟩ := hq i (by omega)
      rw [add_plain] at c0 c1
      rw [v0] at c0
      rw [v1] at c1
      have e1 : eP ((List.range n).map q) i = (q i).1 := by simp [eP, List.getD, hi]
      have e2 : eN ((List.range n).map q) i = (q i).2 := by simp [eN, List.getD, hi]
      rw [e1, e2]
      exact ⟨c0, by rw [Nat.add_assoc]; exact c1⟩

end Go.Proofs.Qxb6604789a
