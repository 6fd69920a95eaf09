/-
  No cell of these rows narrows 'for every input' (looked for: loops, veiled, ifaces, maps, wideKeys, modest, calm, conditions, laid).
  DERIVED. THE GIVEN ROWS OF THIS SEAT. 4 by the template 'for every input the law returns true; each argument reads behind the call as it read before'; 0 by the template 'total and deterministic' (their statements: Qxb6602685aTotals.lean).
  GIVEN WITH THE SEED: the statements are not yours to turn. If you find one false, say at which input.
  Laid BY PROGRAM, IN A SANDBOX (cutbox-rows.mjs): the forced cells as the released guide's own fill.sh prints them over the translation 26d9f985f3e4d555… (all of the seat's roots in one cut). By AI agents, Wed Nov 11 2026. No macro, syntax, notation, axiom, sorry.
-/
import Derived.Test.Qxb6602685aChecked
import GoSem.Claim
import GoSem.ClaimJoined
import GoSem.ClaimMapViews
import Derived.JoinedTies
import Derived.KernelRfl
namespace Go.Proofs.Qxb6602685a
/- THE CELL 'sum', in the pinned program and in every row, IS THE sha256 OF THE DUMP (.gsa) THAT Qxb6602685aProg.lean LOADS. Nothing in Lean hashes anything: it is a label: what it is worth is what the hold of that sum in a sandbox is worth. -/
noncomputable def Try.pinned : Pinned := { name := "qxb6602685a", sum := "26d9f985f3e4d5556dbff2648f875dd9f917f7a854ad001a6cca138cb049d397", checked := Try.checked }
namespace Rows
def none {H : Type} : Left H := { results := [], args := [] }

/-- 'zzlaws_urlpath_b1.FnValidSchemeSplit': WHATEVER THE INPUT: true; the input reads as it did. -/
def fnValidSchemeSplitSpec : ChangeSpec := { name := "fnValidSchemeSplit", fn := fun _ => fun
  | [d1, d2] => { results := [.lit (.bool true)], args := [d1, d2] }
  | _ => none }
def fnValidSchemeSplitRow : OpenClaim := { program := "qxb6602685a", sum := "26d9f985f3e4d5556dbff2648f875dd9f917f7a854ad001a6cca138cb049d397", func := "example.com/wakeroute/wakeroute/zzlaws_urlpath_b1.FnValidSchemeSplit", spec := "fnValidSchemeSplit", apart := false }
def FnValidSchemeSplitSaid : Prop := fnValidSchemeSplitRow.holds Try.pinned (OpenSpec.ofChange fnValidSchemeSplitSpec)

/-- ITS FALSE NEIGHBOUR: 'it returns false'. Refute it at one input. -/
def fnValidSchemeSplitWrong : ChangeSpec := { name := "fnValidSchemeSplit", fn := fun _ => fun
  | [d1, d2] => { results := [.lit (.bool false)], args := [d1, d2] }
  | _ => none }
def FnValidSchemeSplitWrongFalsely : Prop := fnValidSchemeSplitRow.holds Try.pinned (OpenSpec.ofChange fnValidSchemeSplitWrong)

/-- 'zzlaws_urlpath_b1.FnValidSchemeCaseFold': WHATEVER THE INPUT: true; the input reads as it did. -/
def fnValidSchemeCaseFoldSpec : ChangeSpec := { name := "fnValidSchemeCaseFold", fn := fun _ => fun
  | [d] => { results := [.lit (.bool true)], args := [d] }
  | _ => none }
def fnValidSchemeCaseFoldRow : OpenClaim := { program := "qxb6602685a", sum := "26d9f985f3e4d5556dbff2648f875dd9f917f7a854ad001a6cca138cb049d397", func := "example.com/wakeroute/wakeroute/zzlaws_urlpath_b1.FnValidSchemeCaseFold", spec := "fnValidSchemeCaseFold", apart := false }
def FnValidSchemeCaseFoldSaid : Prop := fnValidSchemeCaseFoldRow.holds Try.pinned (OpenSpec.ofChange fnValidSchemeCaseFoldSpec)

/-- ITS FALSE NEIGHBOUR: 'it returns false'. Refute it at one input. -/
def fnValidSchemeCaseFoldWrong : ChangeSpec := { name := "fnValidSchemeCaseFold", fn := fun _ => fun
  | [d] => { results := [.lit (.bool false)], args := [d] }
  | _ => none }
def FnValidSchemeCaseFoldWrongFalsely : Prop := fnValidSchemeCaseFoldRow.holds Try.pinned (OpenSpec.ofChange fnValidSchemeCaseFoldWrong)

/-- 'zzlaws_urlpath_b1.FnAuthorityFormSpec': WHATEVER THE INPUT: true; the input reads as it did. -/
def fnAuthorityFormSpecSpec : ChangeSpec := { name := "fnAuthorityFormSpec", fn := fun _ => fun
  | [d] => { results := [.lit (.bool true)], args := [d] }
  | _ => none }
def fnAuthorityFormSpecRow : OpenClaim := { program := "qxb6602685a", sum := "26d9f985f3e4d5556dbff2648f875dd9f917f7a854ad001a6cca138cb049d397", func := "example.com/wakeroute/wakeroute/zzlaws_urlpath_b1.FnAuthorityFormSpec", spec := "fnAuthorityFormSpec", apart := false }
def FnAuthorityFormSpecSaid : Prop := fnAuthorityFormSpecRow.holds Try.pinned (OpenSpec.ofChange fnAuthorityFormSpecSpec)

/-- ITS FALSE NEIGHBOUR: 'it returns false'. Refute it at one input. -/
def fnAuthorityFormSpecWrong : ChangeSpec := { name := "fnAuthorityFormSpec", fn := fun _ => fun
  | [d] => { results := [.lit (.bool false)], args := [d] }
  | _ => none }
def FnAuthorityFormSpecWrongFalsely : Prop := fnAuthorityFormSpecRow.holds Try.pinned (OpenSpec.ofChange fnAuthorityFormSpecWrong)

/-- 'zzlaws_urlpath_b1.FnAuthorityFormBracketInvariant': WHATEVER THE INPUT: true; the input reads as it did. -/
def fnAuthorityFormBracketInvariantSpec : ChangeSpec := { name := "fnAuthorityFormBracketInvariant", fn := fun _ => fun
  | [d1, d2] => { results := [.lit (.bool true)], args := [d1, d2] }
  | _ => none }
def fnAuthorityFormBracketInvariantRow : OpenClaim := { program := "qxb6602685a", sum := "26d9f985f3e4d5556dbff2648f875dd9f917f7a854ad001a6cca138cb049d397", func := "example.com/wakeroute/wakeroute/zzlaws_urlpath_b1.FnAuthorityFormBracketInvariant", spec := "fnAuthorityFormBracketInvariant", apart := false }
def FnAuthorityFormBracketInvariantSaid : Prop := fnAuthorityFormBracketInvariantRow.holds Try.pinned (OpenSpec.ofChange fnAuthorityFormBracketInvariantSpec)

/-- ITS FALSE NEIGHBOUR: 'it returns false'. Refute it at one input. -/
def fnAuthorityFormBracketInvariantWrong : ChangeSpec := { name := "fnAuthorityFormBracketInvariant", fn := fun _ => fun
  | [d1, d2] => { results := [.lit (.bool false)], args := [d1, d2] }
  | _ => none }
def FnAuthorityFormBracketInvariantWrongFalsely : Prop := fnAuthorityFormBracketInvariantRow.holds Try.pinned (OpenSpec.ofChange fnAuthorityFormBracketInvariantWrong)

end Rows
end Go.Proofs.Qxb6602685a
