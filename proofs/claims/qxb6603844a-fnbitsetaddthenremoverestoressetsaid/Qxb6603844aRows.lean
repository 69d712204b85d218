/-
  No cell of these rows narrows 'for every input' (looked for: loops, veiled, ifaces, maps, wideKeys, modest, calm, conditions, laid).
  DERIVED. THE GIVEN ROWS OF THIS SEAT. 4 by the template 'for every input the law returns true; each argument reads behind the call as it read before'; 0 by the template 'total and deterministic' (their statements: Qxb6603844aTotals.lean).
  GIVEN WITH THE SEED: the statements are not yours to turn. If you find one false, say at which input.
  Laid BY PROGRAM, IN A SANDBOX (cutbox-rows.mjs): the forced cells as the released guide's own fill.sh prints them over the translation a7910afc53b036b0… (all of the seat's roots in one cut). By AI agents, Wed Nov 11 2026. No macro, syntax, notation, axiom, sorry.
-/
import Derived.Test.Qxb6603844aChecked
import GoSem.Claim
import GoSem.ClaimJoined
import GoSem.ClaimMapViews
import Derived.JoinedTies
import Derived.KernelRfl
namespace Go.Proofs.Qxb6603844a
/- THE CELL 'sum', in the pinned program and in every row, IS THE sha256 OF THE DUMP (.gsa) THAT Qxb6603844aProg.lean LOADS. Nothing in Lean hashes anything: it is a label: what it is worth is what the hold of that sum in a sandbox is worth. -/
noncomputable def Try.pinned : Pinned := { name := "qxb6603844a", sum := "a7910afc53b036b0ede8c12ba222f91382d194f1977feda7966c18e6d37f4d48", checked := Try.checked }
namespace Rows
def none {H : Type} : Left H := { results := [], args := [] }

/-- 'zzlaws_root_b1.FnBitsetAddMatchesSetModel': WHATEVER THE INPUT: true; the input reads as it did. -/
def fnBitsetAddMatchesSetModelSpec : ChangeSpec := { name := "fnBitsetAddMatchesSetModel", fn := fun _ => fun
  | [d1, d2, d3] => { results := [.lit (.bool true)], args := [d1, d2, d3] }
  | _ => none }
def fnBitsetAddMatchesSetModelRow : OpenClaim := { program := "qxb6603844a", sum := "a7910afc53b036b0ede8c12ba222f91382d194f1977feda7966c18e6d37f4d48", func := "example.com/heddlepool/heddlepool/zzlaws_root_b1.FnBitsetAddMatchesSetModel", spec := "fnBitsetAddMatchesSetModel", apart := false }
def FnBitsetAddMatchesSetModelSaid : Prop := fnBitsetAddMatchesSetModelRow.holds Try.pinned (OpenSpec.ofChange fnBitsetAddMatchesSetModelSpec)

/-- ITS FALSE NEIGHBOUR: 'it returns false'. Refute it at one input. -/
def fnBitsetAddMatchesSetModelWrong : ChangeSpec := { name := "fnBitsetAddMatchesSetModel", fn := fun _ => fun
  | [d1, d2, d3] => { results := [.lit (.bool false)], args := [d1, d2, d3] }
  | _ => none }
def FnBitsetAddMatchesSetModelWrongFalsely : Prop := fnBitsetAddMatchesSetModelRow.holds Try.pinned (OpenSpec.ofChange fnBitsetAddMatchesSetModelWrong)

/-- 'zzlaws_root_b1.FnBitsetAddKeepsWellFormed': WHATEVER THE INPUT: true; the input reads as it did. -/
def fnBitsetAddKeepsWellFormedSpec : ChangeSpec := { name := "fnBitsetAddKeepsWellFormed", fn := fun _ => fun
  | [d1, d2, d3] => { results := [.lit (.bool true)], args := [d1, d2, d3] }
  | _ => none }
def fnBitsetAddKeepsWellFormedRow : OpenClaim := { program := "qxb6603844a", sum := "a7910afc53b036b0ede8c12ba222f91382d194f1977feda7966c18e6d37f4d48", func := "example.com/heddlepool/heddlepool/zzlaws_root_b1.FnBitsetAddKeepsWellFormed", spec := "fnBitsetAddKeepsWellFormed", apart := false }
def FnBitsetAddKeepsWellFormedSaid : Prop := fnBitsetAddKeepsWellFormedRow.holds Try.pinned (OpenSpec.ofChange fnBitsetAddKeepsWellFormedSpec)

/-- ITS FALSE NEIGHBOUR: 'it returns false'. Refute it at one input. -/
def fnBitsetAddKeepsWellFormedWrong : ChangeSpec := { name := "fnBitsetAddKeepsWellFormed", fn := fun _ => fun
  | [d1, d2, d3] => { results := [.lit (.bool false)], args := [d1, d2, d3] }
  | _ => none }
def FnBitsetAddKeepsWellFormedWrongFalsely : Prop := fnBitsetAddKeepsWellFormedRow.holds Try.pinned (OpenSpec.ofChange fnBitsetAddKeepsWellFormedWrong)

/-- 'zzlaws_root_b1.FnBitsetRemoveMatchesSetModel': WHATEVER THE INPUT: true; the input reads as it did. -/
def fnBitsetRemoveMatchesSetModelSpec : ChangeSpec := { name := "fnBitsetRemoveMatchesSetModel", fn := fun _ => fun
  | [d1, d2, d3] => { results := [.lit (.bool true)], args := [d1, d2, d3] }
  | _ => none }
def fnBitsetRemoveMatchesSetModelRow : OpenClaim := { program := "qxb6603844a", sum := "a7910afc53b036b0ede8c12ba222f91382d194f1977feda7966c18e6d37f4d48", func := "example.com/heddlepool/heddlepool/zzlaws_root_b1.FnBitsetRemoveMatchesSetModel", spec := "fnBitsetRemoveMatchesSetModel", apart := false }
def FnBitsetRemoveMatchesSetModelSaid : Prop := fnBitsetRemoveMatchesSetModelRow.holds Try.pinned (OpenSpec.ofChange fnBitsetRemoveMatchesSetModelSpec)

/-- ITS FALSE NEIGHBOUR: 'it returns false'. Refute it at one input. -/
def fnBitsetRemoveMatchesSetModelWrong : ChangeSpec := { name := "fnBitsetRemoveMatchesSetModel", fn := fun _ => fun
  | [d1, d2, d3] => { results := [.lit (.bool false)], args := [d1, d2, d3] }
  | _ => none }
def FnBitsetRemoveMatchesSetModelWrongFalsely : Prop := fnBitsetRemoveMatchesSetModelRow.holds Try.pinned (OpenSpec.ofChange fnBitsetRemoveMatchesSetModelWrong)

/-- 'zzlaws_root_b1.FnBitsetAddThenRemoveRestoresSet': WHATEVER THE INPUT: true; the input reads as it did. -/
def fnBitsetAddThenRemoveRestoresSetSpec : ChangeSpec := { name := "fnBitsetAddThenRemoveRestoresSet", fn := fun _ => fun
  | [d1, d2, d3] => { results := [.lit (.bool true)], args := [d1, d2, d3] }
  | _ => none }
def fnBitsetAddThenRemoveRestoresSetRow : OpenClaim := { program := "qxb6603844a", sum := "a7910afc53b036b0ede8c12ba222f91382d194f1977feda7966c18e6d37f4d48", func := "example.com/heddlepool/heddlepool/zzlaws_root_b1.FnBitsetAddThenRemoveRestoresSet", spec := "fnBitsetAddThenRemoveRestoresSet", apart := false }
def FnBitsetAddThenRemoveRestoresSetSaid : Prop := fnBitsetAddThenRemoveRestoresSetRow.holds Try.pinned (OpenSpec.ofChange fnBitsetAddThenRemoveRestoresSetSpec)

/-- ITS FALSE NEIGHBOUR: 'it returns false'. Refute it at one input. -/
def fnBitsetAddThenRemoveRestoresSetWrong : ChangeSpec := { name := "fnBitsetAddThenRemoveRestoresSet", fn := fun _ => fun
  | [d1, d2, d3] => { results := [.lit (.bool false)], args := [d1, d2, d3] }
  | _ => none }
def FnBitsetAddThenRemoveRestoresSetWrongFalsely : Prop := fnBitsetAddThenRemoveRestoresSetRow.holds Try.pinned (OpenSpec.ofChange fnBitsetAddThenRemoveRestoresSetWrong)

end Rows
end Go.Proofs.Qxb6603844a
