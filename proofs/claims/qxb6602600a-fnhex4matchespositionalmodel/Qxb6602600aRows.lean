/-
  No cell of these rows narrows 'for every input' (looked for: loops, veiled, ifaces, maps, wideKeys, modest, calm, conditions, laid).
  DERIVED. THE GIVEN ROWS OF THIS SEAT. 3 by the template 'for every input the law returns true; each argument reads behind the call as it read before'; 0 by the template 'total and deterministic' (their statements: Qxb6602600aTotals.lean).
  GIVEN WITH THE SEED: the statements are not yours to turn. If you find one false, say at which input.
  Laid BY PROGRAM, IN A SANDBOX (cutbox-rows.mjs): the forced cells as the released guide's own fill.sh prints them over the translation 7269076c659f5dd5… (all of the seat's roots in one cut). By AI agents, Wed Nov 11 2026. No macro, syntax, notation, axiom, sorry.
-/
import Derived.Test.Qxb6602600aChecked
import GoSem.Claim
import GoSem.ClaimJoined
import GoSem.ClaimMapViews
import Derived.JoinedTies
import Derived.KernelRfl
namespace Go.Proofs.Qxb6602600a
/- THE CELL 'sum', in the pinned program and in every row, IS THE sha256 OF THE DUMP (.gsa) THAT Qxb6602600aProg.lean LOADS. Nothing in Lean hashes anything: it is a label: what it is worth is what the hold of that sum in a sandbox is worth. -/
noncomputable def Try.pinned : Pinned := { name := "qxb6602600a", sum := "7269076c659f5dd5a6d49b07b42d05c02318f46426179b704ae69f940206b403", checked := Try.checked }
namespace Rows
def none {H : Type} : Left H := { results := [], args := [] }

/-- 'zzlaws_internal_jsondoc_b1.FnHexDigitMatchesTable': WHATEVER THE INPUT: true; the input reads as it did. -/
def fnHexDigitMatchesTableSpec : ChangeSpec := { name := "fnHexDigitMatchesTable", fn := fun _ => fun
  | [d] => { results := [.lit (.bool true)], args := [d] }
  | _ => none }
def fnHexDigitMatchesTableRow : OpenClaim := { program := "qxb6602600a", sum := "7269076c659f5dd5a6d49b07b42d05c02318f46426179b704ae69f940206b403", func := "example.com/planfold/planfold/zzlaws_internal_jsondoc_b1.FnHexDigitMatchesTable", spec := "fnHexDigitMatchesTable", apart := false }
def FnHexDigitMatchesTableSaid : Prop := fnHexDigitMatchesTableRow.holds Try.pinned (OpenSpec.ofChange fnHexDigitMatchesTableSpec)

/-- ITS FALSE NEIGHBOUR: 'it returns false'. Refute it at one input. -/
def fnHexDigitMatchesTableWrong : ChangeSpec := { name := "fnHexDigitMatchesTable", fn := fun _ => fun
  | [d] => { results := [.lit (.bool false)], args := [d] }
  | _ => none }
def FnHexDigitMatchesTableWrongFalsely : Prop := fnHexDigitMatchesTableRow.holds Try.pinned (OpenSpec.ofChange fnHexDigitMatchesTableWrong)

/-- 'zzlaws_internal_jsondoc_b1.FnHex4MatchesPositionalModel': WHATEVER THE INPUT: true; the input reads as it did. -/
def fnHex4MatchesPositionalModelSpec : ChangeSpec := { name := "fnHex4MatchesPositionalModel", fn := fun _ => fun
  | [d] => { results := [.lit (.bool true)], args := [d] }
  | _ => none }
def fnHex4MatchesPositionalModelRow : OpenClaim := { program := "qxb6602600a", sum := "7269076c659f5dd5a6d49b07b42d05c02318f46426179b704ae69f940206b403", func := "example.com/planfold/planfold/zzlaws_internal_jsondoc_b1.FnHex4MatchesPositionalModel", spec := "fnHex4MatchesPositionalModel", apart := false }
def FnHex4MatchesPositionalModelSaid : Prop := fnHex4MatchesPositionalModelRow.holds Try.pinned (OpenSpec.ofChange fnHex4MatchesPositionalModelSpec)

/-- ITS FALSE NEIGHBOUR: 'it returns false'. Refute it at one input. -/
def fnHex4MatchesPositionalModelWrong : ChangeSpec := { name := "fnHex4MatchesPositionalModel", fn := fun _ => fun
  | [d] => { results := [.lit (.bool false)], args := [d] }
  | _ => none }
def FnHex4MatchesPositionalModelWrongFalsely : Prop := fnHex4MatchesPositionalModelRow.holds Try.pinned (OpenSpec.ofChange fnHex4MatchesPositionalModelWrong)

/-- 'zzlaws_internal_jsondoc_b1.FnHex4RoundTrip': WHATEVER THE INPUT: true; the input reads as it did. -/
def fnHex4RoundTripSpec : ChangeSpec := { name := "fnHex4RoundTrip", fn := fun _ => fun
  | [d1, d2, d3] => { results := [.lit (.bool true)], args := [d1, d2, d3] }
  | _ => none }
def fnHex4RoundTripRow : OpenClaim := { program := "qxb6602600a", sum := "7269076c659f5dd5a6d49b07b42d05c02318f46426179b704ae69f940206b403", func := "example.com/planfold/planfold/zzlaws_internal_jsondoc_b1.FnHex4RoundTrip", spec := "fnHex4RoundTrip", apart := false }
def FnHex4RoundTripSaid : Prop := fnHex4RoundTripRow.holds Try.pinned (OpenSpec.ofChange fnHex4RoundTripSpec)

/-- ITS FALSE NEIGHBOUR: 'it returns false'. Refute it at one input. -/
def fnHex4RoundTripWrong : ChangeSpec := { name := "fnHex4RoundTrip", fn := fun _ => fun
  | [d1, d2, d3] => { results := [.lit (.bool false)], args := [d1, d2, d3] }
  | _ => none }
def FnHex4RoundTripWrongFalsely : Prop := fnHex4RoundTripRow.holds Try.pinned (OpenSpec.ofChange fnHex4RoundTripWrong)

end Rows
end Go.Proofs.Qxb6602600a
