/-
  No cell of these rows narrows 'for every input' (looked for: loops, veiled, ifaces, maps, wideKeys, modest, calm, conditions, laid).
  DERIVED. THE GIVEN ROWS OF THIS SEAT. 7 by the template 'for every input the law returns true; each argument reads behind the call as it read before'; 0 by the template 'total and deterministic' (their statements: Qxb6601053aTotals.lean).
  GIVEN WITH THE SEED: the statements are not yours to turn. If you find one false, say at which input.
  Laid BY PROGRAM, IN A SANDBOX (cutbox-rows.mjs): the forced cells as the released guide's own fill.sh prints them over the translation 1ff83986ef03dbb6… (all of the seat's roots in one cut). By AI agents, Wed Nov 11 2026. No macro, syntax, notation, axiom, sorry.
-/
import Derived.Test.Qxb6601053aChecked
import GoSem.Claim
import GoSem.ClaimJoined
import GoSem.ClaimMapViews
import Derived.JoinedTies
import Derived.KernelRfl
namespace Go.Proofs.Qxb6601053a
/- THE CELL 'sum', in the pinned program and in every row, IS THE sha256 OF THE DUMP (.gsa) THAT Qxb6601053aProg.lean LOADS. Nothing in Lean hashes anything: it is a label: what it is worth is what the hold of that sum in a sandbox is worth. -/
noncomputable def Try.pinned : Pinned := { name := "qxb6601053a", sum := "1ff83986ef03dbb63014f439624a0916fa047e1c585a609b0ad7b937ad66ae60", checked := Try.checked }
namespace Rows
def none {H : Type} : Left H := { results := [], args := [] }

/-- 'zzlaws_internal_strictjson_b1.FnEscapedTwoWayInverse': WHATEVER THE INPUT: true; the input reads as it did. -/
def fnEscapedTwoWayInverseSpec : ChangeSpec := { name := "fnEscapedTwoWayInverse", fn := fun _ => fun
  | [d] => { results := [.lit (.bool true)], args := [d] }
  | _ => none }
def fnEscapedTwoWayInverseRow : OpenClaim := { program := "qxb6601053a", sum := "1ff83986ef03dbb63014f439624a0916fa047e1c585a609b0ad7b937ad66ae60", func := "example.com/sluice/sluice/zzlaws_internal_strictjson_b1.FnEscapedTwoWayInverse", spec := "fnEscapedTwoWayInverse", apart := false }
def FnEscapedTwoWayInverseSaid : Prop := fnEscapedTwoWayInverseRow.holds Try.pinned (OpenSpec.ofChange fnEscapedTwoWayInverseSpec)

/-- ITS FALSE NEIGHBOUR: 'it returns false'. Refute it at one input. -/
def fnEscapedTwoWayInverseWrong : ChangeSpec := { name := "fnEscapedTwoWayInverse", fn := fun _ => fun
  | [d] => { results := [.lit (.bool false)], args := [d] }
  | _ => none }
def FnEscapedTwoWayInverseWrongFalsely : Prop := fnEscapedTwoWayInverseRow.holds Try.pinned (OpenSpec.ofChange fnEscapedTwoWayInverseWrong)

/-- 'zzlaws_internal_strictjson_b1.FnHex4Exact': WHATEVER THE INPUT: true; the input reads as it did. -/
def fnHex4ExactSpec : ChangeSpec := { name := "fnHex4Exact", fn := fun _ => fun
  | [d1, d2] => { results := [.lit (.bool true)], args := [d1, d2] }
  | _ => none }
def fnHex4ExactRow : OpenClaim := { program := "qxb6601053a", sum := "1ff83986ef03dbb63014f439624a0916fa047e1c585a609b0ad7b937ad66ae60", func := "example.com/sluice/sluice/zzlaws_internal_strictjson_b1.FnHex4Exact", spec := "fnHex4Exact", apart := false }
def FnHex4ExactSaid : Prop := fnHex4ExactRow.holds Try.pinned (OpenSpec.ofChange fnHex4ExactSpec)

/-- ITS FALSE NEIGHBOUR: 'it returns false'. Refute it at one input. -/
def fnHex4ExactWrong : ChangeSpec := { name := "fnHex4Exact", fn := fun _ => fun
  | [d1, d2] => { results := [.lit (.bool false)], args := [d1, d2] }
  | _ => none }
def FnHex4ExactWrongFalsely : Prop := fnHex4ExactRow.holds Try.pinned (OpenSpec.ofChange fnHex4ExactWrong)

/-- 'zzlaws_internal_strictjson_b1.FnHex4RoundTrip': WHATEVER THE INPUT: true; the input reads as it did. -/
def fnHex4RoundTripSpec : ChangeSpec := { name := "fnHex4RoundTrip", fn := fun _ => fun
  | [d1, d2, d3, d4] => { results := [.lit (.bool true)], args := [d1, d2, d3, d4] }
  | _ => none }
def fnHex4RoundTripRow : OpenClaim := { program := "qxb6601053a", sum := "1ff83986ef03dbb63014f439624a0916fa047e1c585a609b0ad7b937ad66ae60", func := "example.com/sluice/sluice/zzlaws_internal_strictjson_b1.FnHex4RoundTrip", spec := "fnHex4RoundTrip", apart := false }
def FnHex4RoundTripSaid : Prop := fnHex4RoundTripRow.holds Try.pinned (OpenSpec.ofChange fnHex4RoundTripSpec)

/-- ITS FALSE NEIGHBOUR: 'it returns false'. Refute it at one input. -/
def fnHex4RoundTripWrong : ChangeSpec := { name := "fnHex4RoundTrip", fn := fun _ => fun
  | [d1, d2, d3, d4] => { results := [.lit (.bool false)], args := [d1, d2, d3, d4] }
  | _ => none }
def FnHex4RoundTripWrongFalsely : Prop := fnHex4RoundTripRow.holds Try.pinned (OpenSpec.ofChange fnHex4RoundTripWrong)

/-- 'zzlaws_internal_strictjson_b1.FnHex4ReadsOnlyItsSixBytes': WHATEVER THE INPUT: true; the input reads as it did. -/
def fnHex4ReadsOnlyItsSixBytesSpec : ChangeSpec := { name := "fnHex4ReadsOnlyItsSixBytes", fn := fun _ => fun
  | [d1, d2] => { results := [.lit (.bool true)], args := [d1, d2] }
  | _ => none }
def fnHex4ReadsOnlyItsSixBytesRow : OpenClaim := { program := "qxb6601053a", sum := "1ff83986ef03dbb63014f439624a0916fa047e1c585a609b0ad7b937ad66ae60", func := "example.com/sluice/sluice/zzlaws_internal_strictjson_b1.FnHex4ReadsOnlyItsSixBytes", spec := "fnHex4ReadsOnlyItsSixBytes", apart := false }
def FnHex4ReadsOnlyItsSixBytesSaid : Prop := fnHex4ReadsOnlyItsSixBytesRow.holds Try.pinned (OpenSpec.ofChange fnHex4ReadsOnlyItsSixBytesSpec)

/-- ITS FALSE NEIGHBOUR: 'it returns false'. Refute it at one input. -/
def fnHex4ReadsOnlyItsSixBytesWrong : ChangeSpec := { name := "fnHex4ReadsOnlyItsSixBytes", fn := fun _ => fun
  | [d1, d2] => { results := [.lit (.bool false)], args := [d1, d2] }
  | _ => none }
def FnHex4ReadsOnlyItsSixBytesWrongFalsely : Prop := fnHex4ReadsOnlyItsSixBytesRow.holds Try.pinned (OpenSpec.ofChange fnHex4ReadsOnlyItsSixBytesWrong)

/-- 'zzlaws_internal_strictjson_b1.FnSpaceExact': WHATEVER THE INPUT: true; the input reads as it did. -/
def fnSpaceExactSpec : ChangeSpec := { name := "fnSpaceExact", fn := fun _ => fun
  | [d1, d2] => { results := [.lit (.bool true)], args := [d1, d2] }
  | _ => none }
def fnSpaceExactRow : OpenClaim := { program := "qxb6601053a", sum := "1ff83986ef03dbb63014f439624a0916fa047e1c585a609b0ad7b937ad66ae60", func := "example.com/sluice/sluice/zzlaws_internal_strictjson_b1.FnSpaceExact", spec := "fnSpaceExact", apart := false }
def FnSpaceExactSaid : Prop := fnSpaceExactRow.holds Try.pinned (OpenSpec.ofChange fnSpaceExactSpec)

/-- ITS FALSE NEIGHBOUR: 'it returns false'. Refute it at one input. -/
def fnSpaceExactWrong : ChangeSpec := { name := "fnSpaceExact", fn := fun _ => fun
  | [d1, d2] => { results := [.lit (.bool false)], args := [d1, d2] }
  | _ => none }
def FnSpaceExactWrongFalsely : Prop := fnSpaceExactRow.holds Try.pinned (OpenSpec.ofChange fnSpaceExactWrong)

/-- 'zzlaws_internal_strictjson_b1.FnSpaceIdempotent': WHATEVER THE INPUT: true; the input reads as it did. -/
def fnSpaceIdempotentSpec : ChangeSpec := { name := "fnSpaceIdempotent", fn := fun _ => fun
  | [d1, d2] => { results := [.lit (.bool true)], args := [d1, d2] }
  | _ => none }
def fnSpaceIdempotentRow : OpenClaim := { program := "qxb6601053a", sum := "1ff83986ef03dbb63014f439624a0916fa047e1c585a609b0ad7b937ad66ae60", func := "example.com/sluice/sluice/zzlaws_internal_strictjson_b1.FnSpaceIdempotent", spec := "fnSpaceIdempotent", apart := false }
def FnSpaceIdempotentSaid : Prop := fnSpaceIdempotentRow.holds Try.pinned (OpenSpec.ofChange fnSpaceIdempotentSpec)

/-- ITS FALSE NEIGHBOUR: 'it returns false'. Refute it at one input. -/
def fnSpaceIdempotentWrong : ChangeSpec := { name := "fnSpaceIdempotent", fn := fun _ => fun
  | [d1, d2] => { results := [.lit (.bool false)], args := [d1, d2] }
  | _ => none }
def FnSpaceIdempotentWrongFalsely : Prop := fnSpaceIdempotentRow.holds Try.pinned (OpenSpec.ofChange fnSpaceIdempotentWrong)

/-- 'zzlaws_internal_strictjson_b1.FnSpaceMonotone': WHATEVER THE INPUT: true; the input reads as it did. -/
def fnSpaceMonotoneSpec : ChangeSpec := { name := "fnSpaceMonotone", fn := fun _ => fun
  | [d1, d2, d3] => { results := [.lit (.bool true)], args := [d1, d2, d3] }
  | _ => none }
def fnSpaceMonotoneRow : OpenClaim := { program := "qxb6601053a", sum := "1ff83986ef03dbb63014f439624a0916fa047e1c585a609b0ad7b937ad66ae60", func := "example.com/sluice/sluice/zzlaws_internal_strictjson_b1.FnSpaceMonotone", spec := "fnSpaceMonotone", apart := false }
def FnSpaceMonotoneSaid : Prop := fnSpaceMonotoneRow.holds Try.pinned (OpenSpec.ofChange fnSpaceMonotoneSpec)

/-- ITS FALSE NEIGHBOUR: 'it returns false'. Refute it at one input. -/
def fnSpaceMonotoneWrong : ChangeSpec := { name := "fnSpaceMonotone", fn := fun _ => fun
  | [d1, d2, d3] => { results := [.lit (.bool false)], args := [d1, d2, d3] }
  | _ => none }
def FnSpaceMonotoneWrongFalsely : Prop := fnSpaceMonotoneRow.holds Try.pinned (OpenSpec.ofChange fnSpaceMonotoneWrong)

end Rows
end Go.Proofs.Qxb6601053a
