/-
  No cell of these rows narrows 'for every input' (looked for: loops, veiled, ifaces, maps, wideKeys, modest, calm, conditions, laid).
  DERIVED. THE GIVEN ROWS OF THIS SEAT. 5 by the template 'for every input the law returns true; each argument reads behind the call as it read before'; 0 by the template 'total and deterministic' (their statements: Qxb6603208aTotals.lean).
  GIVEN WITH THE SEED: the statements are not yours to turn. If you find one false, say at which input.
  Laid BY PROGRAM, IN A SANDBOX (cutbox-rows.mjs): the forced cells as the released guide's own fill.sh prints them over the translation a4cefd8d1fe9a842… (all of the seat's roots in one cut). By AI agents, Wed Nov 11 2026. No macro, syntax, notation, axiom, sorry.
-/
import Derived.Test.Qxb6603208aChecked
import GoSem.Claim
import GoSem.ClaimJoined
import GoSem.ClaimMapViews
import Derived.JoinedTies
import Derived.KernelRfl
namespace Go.Proofs.Qxb6603208a
/- THE CELL 'sum', in the pinned program and in every row, IS THE sha256 OF THE DUMP (.gsa) THAT Qxb6603208aProg.lean LOADS. Nothing in Lean hashes anything: it is a label: what it is worth is what the hold of that sum in a sandbox is worth. -/
noncomputable def Try.pinned : Pinned := { name := "qxb6603208a", sum := "a4cefd8d1fe9a842525f2a65a332455540bd4f63e73646df629fb89f67961cee", checked := Try.checked }
namespace Rows
def none {H : Type} : Left H := { results := [], args := [] }

/-- 'zzlaws_pkg_diameter_b1.FnFlagLettersCountsAndOrder': WHATEVER THE INPUT: true; the input reads as it did. -/
def fnFlagLettersCountsAndOrderSpec : ChangeSpec := { name := "fnFlagLettersCountsAndOrder", fn := fun _ => fun
  | [d1, d2] => { results := [.lit (.bool true)], args := [d1, d2] }
  | _ => none }
def fnFlagLettersCountsAndOrderRow : OpenClaim := { program := "qxb6603208a", sum := "a4cefd8d1fe9a842525f2a65a332455540bd4f63e73646df629fb89f67961cee", func := "example.com/ebbtide/ebbtide/zzlaws_pkg_diameter_b1.FnFlagLettersCountsAndOrder", spec := "fnFlagLettersCountsAndOrder", apart := false }
def FnFlagLettersCountsAndOrderSaid : Prop := fnFlagLettersCountsAndOrderRow.holds Try.pinned (OpenSpec.ofChange fnFlagLettersCountsAndOrderSpec)

/-- ITS FALSE NEIGHBOUR: 'it returns false'. Refute it at one input. -/
def fnFlagLettersCountsAndOrderWrong : ChangeSpec := { name := "fnFlagLettersCountsAndOrder", fn := fun _ => fun
  | [d1, d2] => { results := [.lit (.bool false)], args := [d1, d2] }
  | _ => none }
def FnFlagLettersCountsAndOrderWrongFalsely : Prop := fnFlagLettersCountsAndOrderRow.holds Try.pinned (OpenSpec.ofChange fnFlagLettersCountsAndOrderWrong)

/-- 'zzlaws_pkg_diameter_b1.FnFlagLettersIgnoresLettersPastEighth': WHATEVER THE INPUT: true; the input reads as it did. -/
def fnFlagLettersIgnoresLettersPastEighthSpec : ChangeSpec := { name := "fnFlagLettersIgnoresLettersPastEighth", fn := fun _ => fun
  | [d1, d2] => { results := [.lit (.bool true)], args := [d1, d2] }
  | _ => none }
def fnFlagLettersIgnoresLettersPastEighthRow : OpenClaim := { program := "qxb6603208a", sum := "a4cefd8d1fe9a842525f2a65a332455540bd4f63e73646df629fb89f67961cee", func := "example.com/ebbtide/ebbtide/zzlaws_pkg_diameter_b1.FnFlagLettersIgnoresLettersPastEighth", spec := "fnFlagLettersIgnoresLettersPastEighth", apart := false }
def FnFlagLettersIgnoresLettersPastEighthSaid : Prop := fnFlagLettersIgnoresLettersPastEighthRow.holds Try.pinned (OpenSpec.ofChange fnFlagLettersIgnoresLettersPastEighthSpec)

/-- ITS FALSE NEIGHBOUR: 'it returns false'. Refute it at one input. -/
def fnFlagLettersIgnoresLettersPastEighthWrong : ChangeSpec := { name := "fnFlagLettersIgnoresLettersPastEighth", fn := fun _ => fun
  | [d1, d2] => { results := [.lit (.bool false)], args := [d1, d2] }
  | _ => none }
def FnFlagLettersIgnoresLettersPastEighthWrongFalsely : Prop := fnFlagLettersIgnoresLettersPastEighthRow.holds Try.pinned (OpenSpec.ofChange fnFlagLettersIgnoresLettersPastEighthWrong)

/-- 'zzlaws_pkg_diameter_b1.FnFlagsReadByFlagLetters': WHATEVER THE INPUT: true; the input reads as it did. -/
def fnFlagsReadByFlagLettersSpec : ChangeSpec := { name := "fnFlagsReadByFlagLetters", fn := fun _ => fun
  | [d1, d2, d3, d4, d5, d6] => { results := [.lit (.bool true)], args := [d1, d2, d3, d4, d5, d6] }
  | _ => none }
def fnFlagsReadByFlagLettersRow : OpenClaim := { program := "qxb6603208a", sum := "a4cefd8d1fe9a842525f2a65a332455540bd4f63e73646df629fb89f67961cee", func := "example.com/ebbtide/ebbtide/zzlaws_pkg_diameter_b1.FnFlagsReadByFlagLetters", spec := "fnFlagsReadByFlagLetters", apart := false }
def FnFlagsReadByFlagLettersSaid : Prop := fnFlagsReadByFlagLettersRow.holds Try.pinned (OpenSpec.ofChange fnFlagsReadByFlagLettersSpec)

/-- ITS FALSE NEIGHBOUR: 'it returns false'. Refute it at one input. -/
def fnFlagsReadByFlagLettersWrong : ChangeSpec := { name := "fnFlagsReadByFlagLetters", fn := fun _ => fun
  | [d1, d2, d3, d4, d5, d6] => { results := [.lit (.bool false)], args := [d1, d2, d3, d4, d5, d6] }
  | _ => none }
def FnFlagsReadByFlagLettersWrongFalsely : Prop := fnFlagsReadByFlagLettersRow.holds Try.pinned (OpenSpec.ofChange fnFlagsReadByFlagLettersWrong)

/-- 'zzlaws_pkg_diameter_b1.FnNestMatchesStackParser': WHATEVER THE INPUT: true; the input reads as it did. -/
def fnNestMatchesStackParserSpec : ChangeSpec := { name := "fnNestMatchesStackParser", fn := fun _ => fun
  | [d1, d2, d3, d4, d5, d6, d7] => { results := [.lit (.bool true)], args := [d1, d2, d3, d4, d5, d6, d7] }
  | _ => none }
def fnNestMatchesStackParserRow : OpenClaim := { program := "qxb6603208a", sum := "a4cefd8d1fe9a842525f2a65a332455540bd4f63e73646df629fb89f67961cee", func := "example.com/ebbtide/ebbtide/zzlaws_pkg_diameter_b1.FnNestMatchesStackParser", spec := "fnNestMatchesStackParser", recurses := true, apart := false }
def FnNestMatchesStackParserSaid : Prop := fnNestMatchesStackParserRow.holds Try.pinned (OpenSpec.ofChange fnNestMatchesStackParserSpec)

/-- ITS FALSE NEIGHBOUR: 'it returns false'. Refute it at one input. -/
def fnNestMatchesStackParserWrong : ChangeSpec := { name := "fnNestMatchesStackParser", fn := fun _ => fun
  | [d1, d2, d3, d4, d5, d6, d7] => { results := [.lit (.bool false)], args := [d1, d2, d3, d4, d5, d6, d7] }
  | _ => none }
def FnNestMatchesStackParserWrongFalsely : Prop := fnNestMatchesStackParserRow.holds Try.pinned (OpenSpec.ofChange fnNestMatchesStackParserWrong)

/-- 'zzlaws_pkg_diameter_b1.FnNestShiftInvariant': WHATEVER THE INPUT: true; the input reads as it did. -/
def fnNestShiftInvariantSpec : ChangeSpec := { name := "fnNestShiftInvariant", fn := fun _ => fun
  | [d1, d2, d3, d4, d5, d6, d7, d8] => { results := [.lit (.bool true)], args := [d1, d2, d3, d4, d5, d6, d7, d8] }
  | _ => none }
def fnNestShiftInvariantRow : OpenClaim := { program := "qxb6603208a", sum := "a4cefd8d1fe9a842525f2a65a332455540bd4f63e73646df629fb89f67961cee", func := "example.com/ebbtide/ebbtide/zzlaws_pkg_diameter_b1.FnNestShiftInvariant", spec := "fnNestShiftInvariant", recurses := true, apart := false }
def FnNestShiftInvariantSaid : Prop := fnNestShiftInvariantRow.holds Try.pinned (OpenSpec.ofChange fnNestShiftInvariantSpec)

/-- ITS FALSE NEIGHBOUR: 'it returns false'. Refute it at one input. -/
def fnNestShiftInvariantWrong : ChangeSpec := { name := "fnNestShiftInvariant", fn := fun _ => fun
  | [d1, d2, d3, d4, d5, d6, d7, d8] => { results := [.lit (.bool false)], args := [d1, d2, d3, d4, d5, d6, d7, d8] }
  | _ => none }
def FnNestShiftInvariantWrongFalsely : Prop := fnNestShiftInvariantRow.holds Try.pinned (OpenSpec.ofChange fnNestShiftInvariantWrong)

end Rows
end Go.Proofs.Qxb6603208a
