/-
  No cell of these rows narrows 'for every input' (looked for: loops, veiled, ifaces, maps, wideKeys, modest, calm, conditions, laid).
  DERIVED. THE GIVEN ROWS OF THIS SEAT. 4 by the template 'for every input the law returns true; each argument reads behind the call as it read before'; 0 by the template 'total and deterministic' (their statements: Qxb6602665aTotals.lean).
  GIVEN WITH THE SEED: the statements are not yours to turn. If you find one false, say at which input.
  Laid BY PROGRAM, IN A SANDBOX (cutbox-rows.mjs): the forced cells as the released guide's own fill.sh prints them over the translation 4e7707b6d51704bb… (all of the seat's roots in one cut). By AI agents, Wed Nov 11 2026. No macro, syntax, notation, axiom, sorry.
-/
import Derived.Test.Qxb6602665aChecked
import GoSem.Claim
import GoSem.ClaimJoined
import GoSem.ClaimMapViews
import Derived.JoinedTies
import Derived.KernelRfl
namespace Go.Proofs.Qxb6602665a
/- THE CELL 'sum', in the pinned program and in every row, IS THE sha256 OF THE DUMP (.gsa) THAT Qxb6602665aProg.lean LOADS. Nothing in Lean hashes anything: it is a label: what it is worth is what the hold of that sum in a sandbox is worth. -/
noncomputable def Try.pinned : Pinned := { name := "qxb6602665a", sum := "4e7707b6d51704bb8c2b5b6cd35281789fd86b7a305f873af1823be943bf54f2", checked := Try.checked }
namespace Rows
def none {H : Type} : Left H := { results := [], args := [] }

/-- 'zzlaws_queue_b1.FnReadNumberSpec': WHATEVER THE INPUT: true; the input reads as it did. -/
def fnReadNumberSpecSpec : ChangeSpec := { name := "fnReadNumberSpec", fn := fun _ => fun
  | [d] => { results := [.lit (.bool true)], args := [d] }
  | _ => none }
def fnReadNumberSpecRow : OpenClaim := { program := "qxb6602665a", sum := "4e7707b6d51704bb8c2b5b6cd35281789fd86b7a305f873af1823be943bf54f2", func := "example.com/evenkeel/evenkeel/zzlaws_queue_b1.FnReadNumberSpec", spec := "fnReadNumberSpec", unfollowed := true, recurses := true, apart := false }
def FnReadNumberSpecSaid : Prop := fnReadNumberSpecRow.holds Try.pinned (OpenSpec.ofChange fnReadNumberSpecSpec)

/-- ITS FALSE NEIGHBOUR: 'it returns false'. Refute it at one input. -/
def fnReadNumberSpecWrong : ChangeSpec := { name := "fnReadNumberSpec", fn := fun _ => fun
  | [d] => { results := [.lit (.bool false)], args := [d] }
  | _ => none }
def FnReadNumberSpecWrongFalsely : Prop := fnReadNumberSpecRow.holds Try.pinned (OpenSpec.ofChange fnReadNumberSpecWrong)

/-- 'zzlaws_queue_b1.FnReadNumberOwnText': WHATEVER THE INPUT: true; the input reads as it did. -/
def fnReadNumberOwnTextSpec : ChangeSpec := { name := "fnReadNumberOwnText", fn := fun _ => fun
  | [d] => { results := [.lit (.bool true)], args := [d] }
  | _ => none }
def fnReadNumberOwnTextRow : OpenClaim := { program := "qxb6602665a", sum := "4e7707b6d51704bb8c2b5b6cd35281789fd86b7a305f873af1823be943bf54f2", func := "example.com/evenkeel/evenkeel/zzlaws_queue_b1.FnReadNumberOwnText", spec := "fnReadNumberOwnText", unfollowed := true, recurses := true, apart := false }
def FnReadNumberOwnTextSaid : Prop := fnReadNumberOwnTextRow.holds Try.pinned (OpenSpec.ofChange fnReadNumberOwnTextSpec)

/-- ITS FALSE NEIGHBOUR: 'it returns false'. Refute it at one input. -/
def fnReadNumberOwnTextWrong : ChangeSpec := { name := "fnReadNumberOwnText", fn := fun _ => fun
  | [d] => { results := [.lit (.bool false)], args := [d] }
  | _ => none }
def FnReadNumberOwnTextWrongFalsely : Prop := fnReadNumberOwnTextRow.holds Try.pinned (OpenSpec.ofChange fnReadNumberOwnTextWrong)

/-- 'zzlaws_queue_b1.FnCancelSQLLockOnly': WHATEVER THE INPUT: true; the input reads as it did. -/
def fnCancelSQLLockOnlySpec : ChangeSpec := { name := "fnCancelSQLLockOnly", fn := fun _ => fun
  | [d1, d2] => { results := [.lit (.bool true)], args := [d1, d2] }
  | _ => none }
def fnCancelSQLLockOnlyRow : OpenClaim := { program := "qxb6602665a", sum := "4e7707b6d51704bb8c2b5b6cd35281789fd86b7a305f873af1823be943bf54f2", func := "example.com/evenkeel/evenkeel/zzlaws_queue_b1.FnCancelSQLLockOnly", spec := "fnCancelSQLLockOnly", apart := false }
def FnCancelSQLLockOnlySaid : Prop := fnCancelSQLLockOnlyRow.holds Try.pinned (OpenSpec.ofChange fnCancelSQLLockOnlySpec)

/-- ITS FALSE NEIGHBOUR: 'it returns false'. Refute it at one input. -/
def fnCancelSQLLockOnlyWrong : ChangeSpec := { name := "fnCancelSQLLockOnly", fn := fun _ => fun
  | [d1, d2] => { results := [.lit (.bool false)], args := [d1, d2] }
  | _ => none }
def FnCancelSQLLockOnlyWrongFalsely : Prop := fnCancelSQLLockOnlyRow.holds Try.pinned (OpenSpec.ofChange fnCancelSQLLockOnlyWrong)

/-- 'zzlaws_queue_b1.FnCancelSQLSplices': WHATEVER THE INPUT: true; the input reads as it did. -/
def fnCancelSQLSplicesSpec : ChangeSpec := { name := "fnCancelSQLSplices", fn := fun _ => fun
  | [d1, d2, d3] => { results := [.lit (.bool true)], args := [d1, d2, d3] }
  | _ => none }
def fnCancelSQLSplicesRow : OpenClaim := { program := "qxb6602665a", sum := "4e7707b6d51704bb8c2b5b6cd35281789fd86b7a305f873af1823be943bf54f2", func := "example.com/evenkeel/evenkeel/zzlaws_queue_b1.FnCancelSQLSplices", spec := "fnCancelSQLSplices", apart := false }
def FnCancelSQLSplicesSaid : Prop := fnCancelSQLSplicesRow.holds Try.pinned (OpenSpec.ofChange fnCancelSQLSplicesSpec)

/-- ITS FALSE NEIGHBOUR: 'it returns false'. Refute it at one input. -/
def fnCancelSQLSplicesWrong : ChangeSpec := { name := "fnCancelSQLSplices", fn := fun _ => fun
  | [d1, d2, d3] => { results := [.lit (.bool false)], args := [d1, d2, d3] }
  | _ => none }
def FnCancelSQLSplicesWrongFalsely : Prop := fnCancelSQLSplicesRow.holds Try.pinned (OpenSpec.ofChange fnCancelSQLSplicesWrong)

end Rows
end Go.Proofs.Qxb6602665a
