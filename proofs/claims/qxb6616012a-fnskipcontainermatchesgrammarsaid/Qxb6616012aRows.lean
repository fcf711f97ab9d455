/-
  No cell of these rows narrows 'for every input' (looked for: loops, veiled, ifaces, maps, wideKeys, modest, calm, conditions, laid).
  DERIVED. THE GIVEN ROWS OF THIS SEAT. 3 by the template 'for every input the law returns true; each argument reads behind the call as it read before'; 0 by the template 'total and deterministic' (their statements: Qxb6616012aTotals.lean).
  GIVEN WITH THE SEED: the statements are not yours to turn. If you find one false, say at which input.
  Laid BY PROGRAM, IN A SANDBOX (cutbox-rows.mjs): the forced cells as the released guide's own fill.sh prints them over the translation e878095378941331… (all of the seat's roots in one cut). By AI agents, Wed Nov 11 2026. No macro, syntax, notation, axiom, sorry.
-/
import Derived.Test.Qxb6616012aChecked
import GoSem.Claim
import GoSem.ClaimJoined
import GoSem.ClaimMapViews
import Derived.JoinedTies
import Derived.KernelRfl
namespace Go.Proofs.Qxb6616012a
/- THE CELL 'sum', in the pinned program and in every row, IS THE sha256 OF THE DUMP (.gsa) THAT Qxb6616012aProg.lean LOADS. Nothing in Lean hashes anything: it is a label: what it is worth is what the hold of that sum in a sandbox is worth. -/
noncomputable def Try.pinned : Pinned := { name := "qxb6616012a", sum := "e878095378941331d9b96a4378008cea3fd4f75898675490ca7d1bc792c737b2", checked := Try.checked }
namespace Rows
def none {H : Type} : Left H := { results := [], args := [] }

/-- 'zzlaws_internal_jsonfield_b1.FnTakesNoFreshEachCall': WHATEVER THE INPUT: true; the input reads as it did. -/
def fnTakesNoFreshEachCallSpec : ChangeSpec := { name := "fnTakesNoFreshEachCall", fn := fun _ => fun
  | [d] => { results := [.lit (.bool true)], args := [d] }
  | _ => none }
def fnTakesNoFreshEachCallRow : OpenClaim := { program := "qxb6616012a", sum := "e878095378941331d9b96a4378008cea3fd4f75898675490ca7d1bc792c737b2", func := "example.com/ample-transport/ample-transport/zzlaws_internal_jsonfield_b1.FnTakesNoFreshEachCall", spec := "fnTakesNoFreshEachCall", apart := false }
def FnTakesNoFreshEachCallSaid : Prop := fnTakesNoFreshEachCallRow.holds Try.pinned (OpenSpec.ofChange fnTakesNoFreshEachCallSpec)

/-- ITS FALSE NEIGHBOUR: 'it returns false'. Refute it at one input. -/
def fnTakesNoFreshEachCallWrong : ChangeSpec := { name := "fnTakesNoFreshEachCall", fn := fun _ => fun
  | [d] => { results := [.lit (.bool false)], args := [d] }
  | _ => none }
def FnTakesNoFreshEachCallWrongFalsely : Prop := fnTakesNoFreshEachCallRow.holds Try.pinned (OpenSpec.ofChange fnTakesNoFreshEachCallWrong)

/-- 'zzlaws_internal_jsonfield_b1.FnSkipContainerMatchesGrammar': WHATEVER THE INPUT: true; the input reads as it did. -/
def fnSkipContainerMatchesGrammarSpec : ChangeSpec := { name := "fnSkipContainerMatchesGrammar", fn := fun _ => fun
  | [d1, d2, d3] => { results := [.lit (.bool true)], args := [d1, d2, d3] }
  | _ => none }
def fnSkipContainerMatchesGrammarRow : OpenClaim := { program := "qxb6616012a", sum := "e878095378941331d9b96a4378008cea3fd4f75898675490ca7d1bc792c737b2", func := "example.com/ample-transport/ample-transport/zzlaws_internal_jsonfield_b1.FnSkipContainerMatchesGrammar", spec := "fnSkipContainerMatchesGrammar", recurses := true, apart := false }
def FnSkipContainerMatchesGrammarSaid : Prop := fnSkipContainerMatchesGrammarRow.holds Try.pinned (OpenSpec.ofChange fnSkipContainerMatchesGrammarSpec)

/-- ITS FALSE NEIGHBOUR: 'it returns false'. Refute it at one input. -/
def fnSkipContainerMatchesGrammarWrong : ChangeSpec := { name := "fnSkipContainerMatchesGrammar", fn := fun _ => fun
  | [d1, d2, d3] => { results := [.lit (.bool false)], args := [d1, d2, d3] }
  | _ => none }
def FnSkipContainerMatchesGrammarWrongFalsely : Prop := fnSkipContainerMatchesGrammarRow.holds Try.pinned (OpenSpec.ofChange fnSkipContainerMatchesGrammarWrong)

/-- 'zzlaws_internal_jsonfield_b1.FnSkipContainerDepthLimitExact': WHATEVER THE INPUT: true; the input reads as it did. -/
def fnSkipContainerDepthLimitExactSpec : ChangeSpec := { name := "fnSkipContainerDepthLimitExact", fn := fun _ => fun
  | [d1, d2] => { results := [.lit (.bool true)], args := [d1, d2] }
  | _ => none }
def fnSkipContainerDepthLimitExactRow : OpenClaim := { program := "qxb6616012a", sum := "e878095378941331d9b96a4378008cea3fd4f75898675490ca7d1bc792c737b2", func := "example.com/ample-transport/ample-transport/zzlaws_internal_jsonfield_b1.FnSkipContainerDepthLimitExact", spec := "fnSkipContainerDepthLimitExact", recurses := true, apart := false }
def FnSkipContainerDepthLimitExactSaid : Prop := fnSkipContainerDepthLimitExactRow.holds Try.pinned (OpenSpec.ofChange fnSkipContainerDepthLimitExactSpec)

/-- ITS FALSE NEIGHBOUR: 'it returns false'. Refute it at one input. -/
def fnSkipContainerDepthLimitExactWrong : ChangeSpec := { name := "fnSkipContainerDepthLimitExact", fn := fun _ => fun
  | [d1, d2] => { results := [.lit (.bool false)], args := [d1, d2] }
  | _ => none }
def FnSkipContainerDepthLimitExactWrongFalsely : Prop := fnSkipContainerDepthLimitExactRow.holds Try.pinned (OpenSpec.ofChange fnSkipContainerDepthLimitExactWrong)

end Rows
end Go.Proofs.Qxb6616012a
