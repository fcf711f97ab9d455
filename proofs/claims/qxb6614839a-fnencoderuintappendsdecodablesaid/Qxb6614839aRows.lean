/-
  No cell of these rows narrows 'for every input' (looked for: loops, veiled, ifaces, maps, wideKeys, modest, calm, conditions, laid).
  DERIVED. THE GIVEN ROWS OF THIS SEAT. 3 by the template 'for every input the law returns true; each argument reads behind the call as it read before'; 0 by the template 'total and deterministic' (their statements: Qxb6614839aTotals.lean).
  GIVEN WITH THE SEED: the statements are not yours to turn. If you find one false, say at which input.
  Laid BY PROGRAM, IN A SANDBOX (cutbox-rows.mjs): the forced cells as the released guide's own fill.sh prints them over the translation c07185c3e7679c40… (all of the seat's roots in one cut). By AI agents, Wed Nov 11 2026. No macro, syntax, notation, axiom, sorry.
-/
import Derived.Test.Qxb6614839aChecked
import GoSem.Claim
import GoSem.ClaimJoined
import GoSem.ClaimMapViews
import Derived.JoinedTies
import Derived.KernelRfl
namespace Go.Proofs.Qxb6614839a
/- THE CELL 'sum', in the pinned program and in every row, IS THE sha256 OF THE DUMP (.gsa) THAT Qxb6614839aProg.lean LOADS. Nothing in Lean hashes anything: it is a label: what it is worth is what the hold of that sum in a sandbox is worth. -/
noncomputable def Try.pinned : Pinned := { name := "qxb6614839a", sum := "c07185c3e7679c404666f9732cb70c7b0d0dc84736f3e5d1d25bab193cdac168", checked := Try.checked }
namespace Rows
def none {H : Type} : Left H := { results := [], args := [] }

/-- 'zzlaws_pkg_issue_b1.FnDecoderFailIdempotentEmpties': WHATEVER THE INPUT: true; the input reads as it did. -/
def fnDecoderFailIdempotentEmptiesSpec : ChangeSpec := { name := "fnDecoderFailIdempotentEmpties", fn := fun _ => fun
  | [d] => { results := [.lit (.bool true)], args := [d] }
  | _ => none }
def fnDecoderFailIdempotentEmptiesRow : OpenClaim := { program := "qxb6614839a", sum := "c07185c3e7679c404666f9732cb70c7b0d0dc84736f3e5d1d25bab193cdac168", func := "example.com/knotbook/knotbook/zzlaws_pkg_issue_b1.FnDecoderFailIdempotentEmpties", spec := "fnDecoderFailIdempotentEmpties", apart := false }
def FnDecoderFailIdempotentEmptiesSaid : Prop := fnDecoderFailIdempotentEmptiesRow.holds Try.pinned (OpenSpec.ofChange fnDecoderFailIdempotentEmptiesSpec)

/-- ITS FALSE NEIGHBOUR: 'it returns false'. Refute it at one input. -/
def fnDecoderFailIdempotentEmptiesWrong : ChangeSpec := { name := "fnDecoderFailIdempotentEmpties", fn := fun _ => fun
  | [d] => { results := [.lit (.bool false)], args := [d] }
  | _ => none }
def FnDecoderFailIdempotentEmptiesWrongFalsely : Prop := fnDecoderFailIdempotentEmptiesRow.holds Try.pinned (OpenSpec.ofChange fnDecoderFailIdempotentEmptiesWrong)

/-- 'zzlaws_pkg_issue_b1.FnEncoderUintAppendsDecodable': WHATEVER THE INPUT: true; the input reads as it did. -/
def fnEncoderUintAppendsDecodableSpec : ChangeSpec := { name := "fnEncoderUintAppendsDecodable", fn := fun _ => fun
  | [d1, d2, d3] => { results := [.lit (.bool true)], args := [d1, d2, d3] }
  | _ => none }
def fnEncoderUintAppendsDecodableRow : OpenClaim := { program := "qxb6614839a", sum := "c07185c3e7679c404666f9732cb70c7b0d0dc84736f3e5d1d25bab193cdac168", func := "example.com/knotbook/knotbook/zzlaws_pkg_issue_b1.FnEncoderUintAppendsDecodable", spec := "fnEncoderUintAppendsDecodable", apart := false }
def FnEncoderUintAppendsDecodableSaid : Prop := fnEncoderUintAppendsDecodableRow.holds Try.pinned (OpenSpec.ofChange fnEncoderUintAppendsDecodableSpec)

/-- ITS FALSE NEIGHBOUR: 'it returns false'. Refute it at one input. -/
def fnEncoderUintAppendsDecodableWrong : ChangeSpec := { name := "fnEncoderUintAppendsDecodable", fn := fun _ => fun
  | [d1, d2, d3] => { results := [.lit (.bool false)], args := [d1, d2, d3] }
  | _ => none }
def FnEncoderUintAppendsDecodableWrongFalsely : Prop := fnEncoderUintAppendsDecodableRow.holds Try.pinned (OpenSpec.ofChange fnEncoderUintAppendsDecodableWrong)

/-- 'zzlaws_pkg_issue_b1.FnEncoderUintConcatenatesWithMinimalLength': WHATEVER THE INPUT: true; the input reads as it did. -/
def fnEncoderUintConcatenatesWithMinimalLengthSpec : ChangeSpec := { name := "fnEncoderUintConcatenatesWithMinimalLength", fn := fun _ => fun
  | [d1, d2] => { results := [.lit (.bool true)], args := [d1, d2] }
  | _ => none }
def fnEncoderUintConcatenatesWithMinimalLengthRow : OpenClaim := { program := "qxb6614839a", sum := "c07185c3e7679c404666f9732cb70c7b0d0dc84736f3e5d1d25bab193cdac168", func := "example.com/knotbook/knotbook/zzlaws_pkg_issue_b1.FnEncoderUintConcatenatesWithMinimalLength", spec := "fnEncoderUintConcatenatesWithMinimalLength", apart := false }
def FnEncoderUintConcatenatesWithMinimalLengthSaid : Prop := fnEncoderUintConcatenatesWithMinimalLengthRow.holds Try.pinned (OpenSpec.ofChange fnEncoderUintConcatenatesWithMinimalLengthSpec)

/-- ITS FALSE NEIGHBOUR: 'it returns false'. Refute it at one input. -/
def fnEncoderUintConcatenatesWithMinimalLengthWrong : ChangeSpec := { name := "fnEncoderUintConcatenatesWithMinimalLength", fn := fun _ => fun
  | [d1, d2] => { results := [.lit (.bool false)], args := [d1, d2] }
  | _ => none }
def FnEncoderUintConcatenatesWithMinimalLengthWrongFalsely : Prop := fnEncoderUintConcatenatesWithMinimalLengthRow.holds Try.pinned (OpenSpec.ofChange fnEncoderUintConcatenatesWithMinimalLengthWrong)

end Rows
end Go.Proofs.Qxb6614839a
