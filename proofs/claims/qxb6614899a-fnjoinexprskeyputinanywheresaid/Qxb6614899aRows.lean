/-
  No cell of these rows narrows 'for every input' (looked for: loops, veiled, ifaces, maps, wideKeys, modest, calm, conditions, laid).
  DERIVED. THE GIVEN ROWS OF THIS SEAT. 3 by the template 'for every input the law returns true; each argument reads behind the call as it read before'; 0 by the template 'total and deterministic' (their statements: Qxb6614899aTotals.lean).
  GIVEN WITH THE SEED: the statements are not yours to turn. If you find one false, say at which input.
  Laid BY PROGRAM, IN A SANDBOX (cutbox-rows.mjs): the forced cells as the released guide's own fill.sh prints them over the translation edc656afe2eb3c07… (all of the seat's roots in one cut). By AI agents, Wed Nov 11 2026. No macro, syntax, notation, axiom, sorry.
-/
import Derived.Test.Qxb6614899aChecked
import GoSem.Claim
import GoSem.ClaimJoined
import GoSem.ClaimMapViews
import Derived.JoinedTies
import Derived.KernelRfl
namespace Go.Proofs.Qxb6614899a
/- THE CELL 'sum', in the pinned program and in every row, IS THE sha256 OF THE DUMP (.gsa) THAT Qxb6614899aProg.lean LOADS. Nothing in Lean hashes anything: it is a label: what it is worth is what the hold of that sum in a sandbox is worth. -/
noncomputable def Try.pinned : Pinned := { name := "qxb6614899a", sum := "edc656afe2eb3c074e1ed717aeb75ed23a08e50e4ba7ff8d32af0dd9f0fb057c", checked := Try.checked }
namespace Rows
def none {H : Type} : Left H := { results := [], args := [] }

/-- 'zzlaws_internal_plan_b1.FnJoinExprsKeyPutInAnywhere': WHATEVER THE INPUT: true; the input reads as it did. -/
def fnJoinExprsKeyPutInAnywhereSpec : ChangeSpec := { name := "fnJoinExprsKeyPutInAnywhere", fn := fun _ => fun
  | [d1, d2, d3, d4, d5] => { results := [.lit (.bool true)], args := [d1, d2, d3, d4, d5] }
  | _ => none }
def fnJoinExprsKeyPutInAnywhereRow : OpenClaim := { program := "qxb6614899a", sum := "edc656afe2eb3c074e1ed717aeb75ed23a08e50e4ba7ff8d32af0dd9f0fb057c", func := "example.com/plancraft/plancraft/zzlaws_internal_plan_b1.FnJoinExprsKeyPutInAnywhere", spec := "fnJoinExprsKeyPutInAnywhere", apart := false }
def FnJoinExprsKeyPutInAnywhereSaid : Prop := fnJoinExprsKeyPutInAnywhereRow.holds Try.pinned (OpenSpec.ofChange fnJoinExprsKeyPutInAnywhereSpec)

/-- ITS FALSE NEIGHBOUR: 'it returns false'. Refute it at one input. -/
def fnJoinExprsKeyPutInAnywhereWrong : ChangeSpec := { name := "fnJoinExprsKeyPutInAnywhere", fn := fun _ => fun
  | [d1, d2, d3, d4, d5] => { results := [.lit (.bool false)], args := [d1, d2, d3, d4, d5] }
  | _ => none }
def FnJoinExprsKeyPutInAnywhereWrongFalsely : Prop := fnJoinExprsKeyPutInAnywhereRow.holds Try.pinned (OpenSpec.ofChange fnJoinExprsKeyPutInAnywhereWrong)

/-- 'zzlaws_internal_plan_b1.FnJoinExprsSplitAtAnyKey': WHATEVER THE INPUT: true; the input reads as it did. -/
def fnJoinExprsSplitAtAnyKeySpec : ChangeSpec := { name := "fnJoinExprsSplitAtAnyKey", fn := fun _ => fun
  | [d1, d2, d3, d4] => { results := [.lit (.bool true)], args := [d1, d2, d3, d4] }
  | _ => none }
def fnJoinExprsSplitAtAnyKeyRow : OpenClaim := { program := "qxb6614899a", sum := "edc656afe2eb3c074e1ed717aeb75ed23a08e50e4ba7ff8d32af0dd9f0fb057c", func := "example.com/plancraft/plancraft/zzlaws_internal_plan_b1.FnJoinExprsSplitAtAnyKey", spec := "fnJoinExprsSplitAtAnyKey", apart := false }
def FnJoinExprsSplitAtAnyKeySaid : Prop := fnJoinExprsSplitAtAnyKeyRow.holds Try.pinned (OpenSpec.ofChange fnJoinExprsSplitAtAnyKeySpec)

/-- ITS FALSE NEIGHBOUR: 'it returns false'. Refute it at one input. -/
def fnJoinExprsSplitAtAnyKeyWrong : ChangeSpec := { name := "fnJoinExprsSplitAtAnyKey", fn := fun _ => fun
  | [d1, d2, d3, d4] => { results := [.lit (.bool false)], args := [d1, d2, d3, d4] }
  | _ => none }
def FnJoinExprsSplitAtAnyKeyWrongFalsely : Prop := fnJoinExprsSplitAtAnyKeyRow.holds Try.pinned (OpenSpec.ofChange fnJoinExprsSplitAtAnyKeyWrong)

/-- 'zzlaws_internal_plan_b1.FnScanAliasOfItsOwnQualifier': WHATEVER THE INPUT: true; the input reads as it did. -/
def fnScanAliasOfItsOwnQualifierSpec : ChangeSpec := { name := "fnScanAliasOfItsOwnQualifier", fn := fun _ => fun
  | [d1, d2] => { results := [.lit (.bool true)], args := [d1, d2] }
  | _ => none }
def fnScanAliasOfItsOwnQualifierRow : OpenClaim := { program := "qxb6614899a", sum := "edc656afe2eb3c074e1ed717aeb75ed23a08e50e4ba7ff8d32af0dd9f0fb057c", func := "example.com/plancraft/plancraft/zzlaws_internal_plan_b1.FnScanAliasOfItsOwnQualifier", spec := "fnScanAliasOfItsOwnQualifier", apart := false }
def FnScanAliasOfItsOwnQualifierSaid : Prop := fnScanAliasOfItsOwnQualifierRow.holds Try.pinned (OpenSpec.ofChange fnScanAliasOfItsOwnQualifierSpec)

/-- ITS FALSE NEIGHBOUR: 'it returns false'. Refute it at one input. -/
def fnScanAliasOfItsOwnQualifierWrong : ChangeSpec := { name := "fnScanAliasOfItsOwnQualifier", fn := fun _ => fun
  | [d1, d2] => { results := [.lit (.bool false)], args := [d1, d2] }
  | _ => none }
def FnScanAliasOfItsOwnQualifierWrongFalsely : Prop := fnScanAliasOfItsOwnQualifierRow.holds Try.pinned (OpenSpec.ofChange fnScanAliasOfItsOwnQualifierWrong)

end Rows
end Go.Proofs.Qxb6614899a
