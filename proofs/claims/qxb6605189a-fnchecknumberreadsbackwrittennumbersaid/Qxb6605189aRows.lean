/-
  No cell of these rows narrows 'for every input' (looked for: loops, veiled, ifaces, maps, wideKeys, modest, calm, conditions, laid).
  DERIVED. THE GIVEN ROWS OF THIS SEAT. 5 by the template 'for every input the law returns true; each argument reads behind the call as it read before'; 0 by the template 'total and deterministic' (their statements: Qxb6605189aTotals.lean).
  GIVEN WITH THE SEED: the statements are not yours to turn. If you find one false, say at which input.
  Laid BY PROGRAM, IN A SANDBOX (cutbox-rows.mjs): the forced cells as the released guide's own fill.sh prints them over the translation 858a8baf749f995e… (all of the seat's roots in one cut). By AI agents, Wed Nov 11 2026. No macro, syntax, notation, axiom, sorry.
-/
import Derived.Test.Qxb6605189aChecked
import GoSem.Claim
import GoSem.ClaimJoined
import GoSem.ClaimMapViews
import Derived.JoinedTies
import Derived.KernelRfl
namespace Go.Proofs.Qxb6605189a
/- THE CELL 'sum', in the pinned program and in every row, IS THE sha256 OF THE DUMP (.gsa) THAT Qxb6605189aProg.lean LOADS. Nothing in Lean hashes anything: it is a label: what it is worth is what the hold of that sum in a sandbox is worth. -/
noncomputable def Try.pinned : Pinned := { name := "qxb6605189a", sum := "858a8baf749f995ec47f7ba220abd996c3ce0caa793c2505633b95ce7769bfd2", checked := Try.checked }
namespace Rows
def none {H : Type} : Left H := { results := [], args := [] }

/-- 'zzlaws_internal_jsonvalue_b1.FnCheckEscapeReadsBackUnicodeEscape': WHATEVER THE INPUT: true; the input reads as it did. -/
def fnCheckEscapeReadsBackUnicodeEscapeSpec : ChangeSpec := { name := "fnCheckEscapeReadsBackUnicodeEscape", fn := fun _ => fun
  | [d1, d2, d3, d4] => { results := [.lit (.bool true)], args := [d1, d2, d3, d4] }
  | _ => none }
def fnCheckEscapeReadsBackUnicodeEscapeRow : OpenClaim := { program := "qxb6605189a", sum := "858a8baf749f995ec47f7ba220abd996c3ce0caa793c2505633b95ce7769bfd2", func := "example.com/interposer/interposer/zzlaws_internal_jsonvalue_b1.FnCheckEscapeReadsBackUnicodeEscape", spec := "fnCheckEscapeReadsBackUnicodeEscape", apart := false }
def FnCheckEscapeReadsBackUnicodeEscapeSaid : Prop := fnCheckEscapeReadsBackUnicodeEscapeRow.holds Try.pinned (OpenSpec.ofChange fnCheckEscapeReadsBackUnicodeEscapeSpec)

/-- ITS FALSE NEIGHBOUR: 'it returns false'. Refute it at one input. -/
def fnCheckEscapeReadsBackUnicodeEscapeWrong : ChangeSpec := { name := "fnCheckEscapeReadsBackUnicodeEscape", fn := fun _ => fun
  | [d1, d2, d3, d4] => { results := [.lit (.bool false)], args := [d1, d2, d3, d4] }
  | _ => none }
def FnCheckEscapeReadsBackUnicodeEscapeWrongFalsely : Prop := fnCheckEscapeReadsBackUnicodeEscapeRow.holds Try.pinned (OpenSpec.ofChange fnCheckEscapeReadsBackUnicodeEscapeWrong)

/-- 'zzlaws_internal_jsonvalue_b1.FnCheckNumberMatchesGrammarAutomaton': WHATEVER THE INPUT: true; the input reads as it did. -/
def fnCheckNumberMatchesGrammarAutomatonSpec : ChangeSpec := { name := "fnCheckNumberMatchesGrammarAutomaton", fn := fun _ => fun
  | [d1, d2] => { results := [.lit (.bool true)], args := [d1, d2] }
  | _ => none }
def fnCheckNumberMatchesGrammarAutomatonRow : OpenClaim := { program := "qxb6605189a", sum := "858a8baf749f995ec47f7ba220abd996c3ce0caa793c2505633b95ce7769bfd2", func := "example.com/interposer/interposer/zzlaws_internal_jsonvalue_b1.FnCheckNumberMatchesGrammarAutomaton", spec := "fnCheckNumberMatchesGrammarAutomaton", apart := false }
def FnCheckNumberMatchesGrammarAutomatonSaid : Prop := fnCheckNumberMatchesGrammarAutomatonRow.holds Try.pinned (OpenSpec.ofChange fnCheckNumberMatchesGrammarAutomatonSpec)

/-- ITS FALSE NEIGHBOUR: 'it returns false'. Refute it at one input. -/
def fnCheckNumberMatchesGrammarAutomatonWrong : ChangeSpec := { name := "fnCheckNumberMatchesGrammarAutomaton", fn := fun _ => fun
  | [d1, d2] => { results := [.lit (.bool false)], args := [d1, d2] }
  | _ => none }
def FnCheckNumberMatchesGrammarAutomatonWrongFalsely : Prop := fnCheckNumberMatchesGrammarAutomatonRow.holds Try.pinned (OpenSpec.ofChange fnCheckNumberMatchesGrammarAutomatonWrong)

/-- 'zzlaws_internal_jsonvalue_b1.FnCheckNumberReadsBackWrittenNumber': WHATEVER THE INPUT: true; the input reads as it did. -/
def fnCheckNumberReadsBackWrittenNumberSpec : ChangeSpec := { name := "fnCheckNumberReadsBackWrittenNumber", fn := fun _ => fun
  | [d1, d2, d3, d4, d5, d6, d7, d8, d9] => { results := [.lit (.bool true)], args := [d1, d2, d3, d4, d5, d6, d7, d8, d9] }
  | _ => none }
def fnCheckNumberReadsBackWrittenNumberRow : OpenClaim := { program := "qxb6605189a", sum := "858a8baf749f995ec47f7ba220abd996c3ce0caa793c2505633b95ce7769bfd2", func := "example.com/interposer/interposer/zzlaws_internal_jsonvalue_b1.FnCheckNumberReadsBackWrittenNumber", spec := "fnCheckNumberReadsBackWrittenNumber", apart := false }
def FnCheckNumberReadsBackWrittenNumberSaid : Prop := fnCheckNumberReadsBackWrittenNumberRow.holds Try.pinned (OpenSpec.ofChange fnCheckNumberReadsBackWrittenNumberSpec)

/-- ITS FALSE NEIGHBOUR: 'it returns false'. Refute it at one input. -/
def fnCheckNumberReadsBackWrittenNumberWrong : ChangeSpec := { name := "fnCheckNumberReadsBackWrittenNumber", fn := fun _ => fun
  | [d1, d2, d3, d4, d5, d6, d7, d8, d9] => { results := [.lit (.bool false)], args := [d1, d2, d3, d4, d5, d6, d7, d8, d9] }
  | _ => none }
def FnCheckNumberReadsBackWrittenNumberWrongFalsely : Prop := fnCheckNumberReadsBackWrittenNumberRow.holds Try.pinned (OpenSpec.ofChange fnCheckNumberReadsBackWrittenNumberWrong)

/-- 'zzlaws_internal_jsonvalue_b1.FnValueEndMatchesValueWalk': WHATEVER THE INPUT: true; the input reads as it did. -/
def fnValueEndMatchesValueWalkSpec : ChangeSpec := { name := "fnValueEndMatchesValueWalk", fn := fun _ => fun
  | [d1, d2, d3, d4] => { results := [.lit (.bool true)], args := [d1, d2, d3, d4] }
  | _ => none }
def fnValueEndMatchesValueWalkRow : OpenClaim := { program := "qxb6605189a", sum := "858a8baf749f995ec47f7ba220abd996c3ce0caa793c2505633b95ce7769bfd2", func := "example.com/interposer/interposer/zzlaws_internal_jsonvalue_b1.FnValueEndMatchesValueWalk", spec := "fnValueEndMatchesValueWalk", inPlace := ["internal/bytealg.IndexByte"], apart := false }
def FnValueEndMatchesValueWalkSaid : Prop := fnValueEndMatchesValueWalkRow.holds Try.pinned (OpenSpec.ofChange fnValueEndMatchesValueWalkSpec)

/-- ITS FALSE NEIGHBOUR: 'it returns false'. Refute it at one input. -/
def fnValueEndMatchesValueWalkWrong : ChangeSpec := { name := "fnValueEndMatchesValueWalk", fn := fun _ => fun
  | [d1, d2, d3, d4] => { results := [.lit (.bool false)], args := [d1, d2, d3, d4] }
  | _ => none }
def FnValueEndMatchesValueWalkWrongFalsely : Prop := fnValueEndMatchesValueWalkRow.holds Try.pinned (OpenSpec.ofChange fnValueEndMatchesValueWalkWrong)

/-- 'zzlaws_internal_jsonvalue_b1.FnValueEndReadsBackQuotedString': WHATEVER THE INPUT: true; the input reads as it did. -/
def fnValueEndReadsBackQuotedStringSpec : ChangeSpec := { name := "fnValueEndReadsBackQuotedString", fn := fun _ => fun
  | [d1, d2, d3] => { results := [.lit (.bool true)], args := [d1, d2, d3] }
  | _ => none }
def fnValueEndReadsBackQuotedStringRow : OpenClaim := { program := "qxb6605189a", sum := "858a8baf749f995ec47f7ba220abd996c3ce0caa793c2505633b95ce7769bfd2", func := "example.com/interposer/interposer/zzlaws_internal_jsonvalue_b1.FnValueEndReadsBackQuotedString", spec := "fnValueEndReadsBackQuotedString", inPlace := ["internal/bytealg.IndexByte"], apart := false }
def FnValueEndReadsBackQuotedStringSaid : Prop := fnValueEndReadsBackQuotedStringRow.holds Try.pinned (OpenSpec.ofChange fnValueEndReadsBackQuotedStringSpec)

/-- ITS FALSE NEIGHBOUR: 'it returns false'. Refute it at one input. -/
def fnValueEndReadsBackQuotedStringWrong : ChangeSpec := { name := "fnValueEndReadsBackQuotedString", fn := fun _ => fun
  | [d1, d2, d3] => { results := [.lit (.bool false)], args := [d1, d2, d3] }
  | _ => none }
def FnValueEndReadsBackQuotedStringWrongFalsely : Prop := fnValueEndReadsBackQuotedStringRow.holds Try.pinned (OpenSpec.ofChange fnValueEndReadsBackQuotedStringWrong)

end Rows
end Go.Proofs.Qxb6605189a
