/-
  No cell of these rows narrows 'for every input' (looked for: loops, veiled, ifaces, maps, wideKeys, modest, calm, conditions, laid).
  DERIVED. THE GIVEN ROWS OF THIS SEAT. 4 by the template 'for every input the law returns true; each argument reads behind the call as it read before'; 0 by the template 'total and deterministic' (their statements: Qxb6604789aTotals.lean).
  GIVEN WITH THE SEED: the statements are not yours to turn. If you find one false, say at which input.
  Laid BY PROGRAM, IN A SANDBOX (cutbox-rows.mjs): the forced cells as the released guide's own fill.sh prints them over the translation 9d208305ceecc989… (all of the seat's roots in one cut). By AI agents, Wed Nov 11 2026. No macro, syntax, notation, axiom, sorry.
-/
import Derived.Test.Qxb6604789aChecked
import GoSem.Claim
import GoSem.ClaimJoined
import GoSem.ClaimMapViews
import Derived.JoinedTies
import Derived.KernelRfl
namespace Go.Proofs.Qxb6604789a
/- THE CELL 'sum', in the pinned program and in every row, IS THE sha256 OF THE DUMP (.gsa) THAT Qxb6604789aProg.lean LOADS. Nothing in Lean hashes anything: it is a label: what it is worth is what the hold of that sum in a sandbox is worth. -/
noncomputable def Try.pinned : Pinned := { name := "qxb6604789a", sum := "9d208305ceecc9892e9bffd530b36be365b6ebf3c7db3e4d2da7168698d3401a", checked := Try.checked }
namespace Rows
def none {H : Type} : Left H := { results := [], args := [] }

/-- 'zzlaws_root_b1.FnSparseCompareMatchesEntrywiseModel': WHATEVER THE INPUT: true; the input reads as it did. -/
def fnSparseCompareMatchesEntrywiseModelSpec : ChangeSpec := { name := "fnSparseCompareMatchesEntrywiseModel", fn := fun _ => fun
  | [d1, d2] => { results := [.lit (.bool true)], args := [d1, d2] }
  | _ => none }
def fnSparseCompareMatchesEntrywiseModelRow : OpenClaim := { program := "qxb6604789a", sum := "9d208305ceecc9892e9bffd530b36be365b6ebf3c7db3e4d2da7168698d3401a", func := "example.com/antecede/antecede/zzlaws_root_b1.FnSparseCompareMatchesEntrywiseModel", spec := "fnSparseCompareMatchesEntrywiseModel", apart := false }
def FnSparseCompareMatchesEntrywiseModelSaid : Prop := fnSparseCompareMatchesEntrywiseModelRow.holds Try.pinned (OpenSpec.ofChange fnSparseCompareMatchesEntrywiseModelSpec)

/-- ITS FALSE NEIGHBOUR: 'it returns false'. Refute it at one input. -/
def fnSparseCompareMatchesEntrywiseModelWrong : ChangeSpec := { name := "fnSparseCompareMatchesEntrywiseModel", fn := fun _ => fun
  | [d1, d2] => { results := [.lit (.bool false)], args := [d1, d2] }
  | _ => none }
def FnSparseCompareMatchesEntrywiseModelWrongFalsely : Prop := fnSparseCompareMatchesEntrywiseModelRow.holds Try.pinned (OpenSpec.ofChange fnSparseCompareMatchesEntrywiseModelWrong)

/-- 'zzlaws_root_b1.FnSparseReceiveMatchesMergeModel': WHATEVER THE INPUT: true; the input reads as it did. -/
def fnSparseReceiveMatchesMergeModelSpec : ChangeSpec := { name := "fnSparseReceiveMatchesMergeModel", fn := fun _ => fun
  | [d1, d2, d3] => { results := [.lit (.bool true)], args := [d1, d2, d3] }
  | _ => none }
def fnSparseReceiveMatchesMergeModelRow : OpenClaim := { program := "qxb6604789a", sum := "9d208305ceecc9892e9bffd530b36be365b6ebf3c7db3e4d2da7168698d3401a", func := "example.com/antecede/antecede/zzlaws_root_b1.FnSparseReceiveMatchesMergeModel", spec := "fnSparseReceiveMatchesMergeModel", inPlace := ["slices.overlaps[example.com/antecede/antecede.Entry]"], apart := false }
def FnSparseReceiveMatchesMergeModelSaid : Prop := fnSparseReceiveMatchesMergeModelRow.holds Try.pinned (OpenSpec.ofChange fnSparseReceiveMatchesMergeModelSpec)

/-- ITS FALSE NEIGHBOUR: 'it returns false'. Refute it at one input. -/
def fnSparseReceiveMatchesMergeModelWrong : ChangeSpec := { name := "fnSparseReceiveMatchesMergeModel", fn := fun _ => fun
  | [d1, d2, d3] => { results := [.lit (.bool false)], args := [d1, d2, d3] }
  | _ => none }
def FnSparseReceiveMatchesMergeModelWrongFalsely : Prop := fnSparseReceiveMatchesMergeModelRow.holds Try.pinned (OpenSpec.ofChange fnSparseReceiveMatchesMergeModelWrong)

/-- 'zzlaws_root_b1.FnSparseReceiveStampsAfterBoth': WHATEVER THE INPUT: true; the input reads as it did. -/
def fnSparseReceiveStampsAfterBothSpec : ChangeSpec := { name := "fnSparseReceiveStampsAfterBoth", fn := fun _ => fun
  | [d1, d2, d3] => { results := [.lit (.bool true)], args := [d1, d2, d3] }
  | _ => none }
def fnSparseReceiveStampsAfterBothRow : OpenClaim := { program := "qxb6604789a", sum := "9d208305ceecc9892e9bffd530b36be365b6ebf3c7db3e4d2da7168698d3401a", func := "example.com/antecede/antecede/zzlaws_root_b1.FnSparseReceiveStampsAfterBoth", spec := "fnSparseReceiveStampsAfterBoth", inPlace := ["slices.overlaps[example.com/antecede/antecede.Entry]"], apart := false }
def FnSparseReceiveStampsAfterBothSaid : Prop := fnSparseReceiveStampsAfterBothRow.holds Try.pinned (OpenSpec.ofChange fnSparseReceiveStampsAfterBothSpec)

/-- ITS FALSE NEIGHBOUR: 'it returns false'. Refute it at one input. -/
def fnSparseReceiveStampsAfterBothWrong : ChangeSpec := { name := "fnSparseReceiveStampsAfterBoth", fn := fun _ => fun
  | [d1, d2, d3] => { results := [.lit (.bool false)], args := [d1, d2, d3] }
  | _ => none }
def FnSparseReceiveStampsAfterBothWrongFalsely : Prop := fnSparseReceiveStampsAfterBothRow.holds Try.pinned (OpenSpec.ofChange fnSparseReceiveStampsAfterBothWrong)

/-- 'zzlaws_root_b1.FnSparseReceiveOwnClockIsTick': WHATEVER THE INPUT: true; the input reads as it did. -/
def fnSparseReceiveOwnClockIsTickSpec : ChangeSpec := { name := "fnSparseReceiveOwnClockIsTick", fn := fun _ => fun
  | [d1, d2] => { results := [.lit (.bool true)], args := [d1, d2] }
  | _ => none }
def fnSparseReceiveOwnClockIsTickRow : OpenClaim := { program := "qxb6604789a", sum := "9d208305ceecc9892e9bffd530b36be365b6ebf3c7db3e4d2da7168698d3401a", func := "example.com/antecede/antecede/zzlaws_root_b1.FnSparseReceiveOwnClockIsTick", spec := "fnSparseReceiveOwnClockIsTick", inPlace := ["slices.overlaps[example.com/antecede/antecede.Entry]"], apart := false }
def FnSparseReceiveOwnClockIsTickSaid : Prop := fnSparseReceiveOwnClockIsTickRow.holds Try.pinned (OpenSpec.ofChange fnSparseReceiveOwnClockIsTickSpec)

/-- ITS FALSE NEIGHBOUR: 'it returns false'. Refute it at one input. -/
def fnSparseReceiveOwnClockIsTickWrong : ChangeSpec := { name := "fnSparseReceiveOwnClockIsTick", fn := fun _ => fun
  | [d1, d2] => { results := [.lit (.bool false)], args := [d1, d2] }
  | _ => none }
def FnSparseReceiveOwnClockIsTickWrongFalsely : Prop := fnSparseReceiveOwnClockIsTickRow.holds Try.pinned (OpenSpec.ofChange fnSparseReceiveOwnClockIsTickWrong)

end Rows
end Go.Proofs.Qxb6604789a
