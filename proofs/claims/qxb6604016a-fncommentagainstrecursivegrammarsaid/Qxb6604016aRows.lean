/-
  No cell of these rows narrows 'for every input' (looked for: loops, veiled, ifaces, maps, wideKeys, modest, calm, conditions, laid).
  DERIVED. THE GIVEN ROWS OF THIS SEAT. 2 by the template 'for every input the law returns true; each argument reads behind the call as it read before'; 0 by the template 'total and deterministic' (their statements: Qxb6604016aTotals.lean).
  GIVEN WITH THE SEED: the statements are not yours to turn. If you find one false, say at which input.
  Laid BY PROGRAM, IN A SANDBOX (cutbox-rows.mjs): the forced cells as the released guide's own fill.sh prints them over the translation 0be5365189f48402… (all of the seat's roots in one cut). By AI agents, Wed Nov 11 2026. No macro, syntax, notation, axiom, sorry.
-/
import Derived.Test.Qxb6604016aChecked
import GoSem.Claim
import GoSem.ClaimJoined
import GoSem.ClaimMapViews
import Derived.JoinedTies
import Derived.KernelRfl
namespace Go.Proofs.Qxb6604016a
/- THE CELL 'sum', in the pinned program and in every row, IS THE sha256 OF THE DUMP (.gsa) THAT Qxb6604016aProg.lean LOADS. Nothing in Lean hashes anything: it is a label: what it is worth is what the hold of that sum in a sandbox is worth. -/
noncomputable def Try.pinned : Pinned := { name := "qxb6604016a", sum := "0be5365189f484024e2e0ce6cc10b607f629413ac3079fe716f1898597690526", checked := Try.checked }
namespace Rows
def none {H : Type} : Left H := { results := [], args := [] }

/-- 'zzlaws_root_b1.FnCutUnitTakesBackAnAppendedLetter': WHATEVER THE INPUT: true; the input reads as it did. -/
def fnCutUnitTakesBackAnAppendedLetterSpec : ChangeSpec := { name := "fnCutUnitTakesBackAnAppendedLetter", fn := fun _ => fun
  | [d1, d2] => { results := [.lit (.bool true)], args := [d1, d2] }
  | _ => none }
def fnCutUnitTakesBackAnAppendedLetterRow : OpenClaim := { program := "qxb6604016a", sum := "0be5365189f484024e2e0ce6cc10b607f629413ac3079fe716f1898597690526", func := "example.com/descant/descant/zzlaws_root_b1.FnCutUnitTakesBackAnAppendedLetter", spec := "fnCutUnitTakesBackAnAppendedLetter", apart := false }
def FnCutUnitTakesBackAnAppendedLetterSaid : Prop := fnCutUnitTakesBackAnAppendedLetterRow.holds Try.pinned (OpenSpec.ofChange fnCutUnitTakesBackAnAppendedLetterSpec)

/-- ITS FALSE NEIGHBOUR: 'it returns false'. Refute it at one input. -/
def fnCutUnitTakesBackAnAppendedLetterWrong : ChangeSpec := { name := "fnCutUnitTakesBackAnAppendedLetter", fn := fun _ => fun
  | [d1, d2] => { results := [.lit (.bool false)], args := [d1, d2] }
  | _ => none }
def FnCutUnitTakesBackAnAppendedLetterWrongFalsely : Prop := fnCutUnitTakesBackAnAppendedLetterRow.holds Try.pinned (OpenSpec.ofChange fnCutUnitTakesBackAnAppendedLetterWrong)

/-- 'zzlaws_root_b1.FnCommentAgainstRecursiveGrammar': WHATEVER THE INPUT: true; the input reads as it did. -/
def fnCommentAgainstRecursiveGrammarSpec : ChangeSpec := { name := "fnCommentAgainstRecursiveGrammar", fn := fun _ => fun
  | [d1, d2] => { results := [.lit (.bool true)], args := [d1, d2] }
  | _ => none }
def fnCommentAgainstRecursiveGrammarRow : OpenClaim := { program := "qxb6604016a", sum := "0be5365189f484024e2e0ce6cc10b607f629413ac3079fe716f1898597690526", func := "example.com/descant/descant/zzlaws_root_b1.FnCommentAgainstRecursiveGrammar", spec := "fnCommentAgainstRecursiveGrammar", recurses := true, apart := false }
def FnCommentAgainstRecursiveGrammarSaid : Prop := fnCommentAgainstRecursiveGrammarRow.holds Try.pinned (OpenSpec.ofChange fnCommentAgainstRecursiveGrammarSpec)

/-- ITS FALSE NEIGHBOUR: 'it returns false'. Refute it at one input. -/
def fnCommentAgainstRecursiveGrammarWrong : ChangeSpec := { name := "fnCommentAgainstRecursiveGrammar", fn := fun _ => fun
  | [d1, d2] => { results := [.lit (.bool false)], args := [d1, d2] }
  | _ => none }
def FnCommentAgainstRecursiveGrammarWrongFalsely : Prop := fnCommentAgainstRecursiveGrammarRow.holds Try.pinned (OpenSpec.ofChange fnCommentAgainstRecursiveGrammarWrong)

end Rows
end Go.Proofs.Qxb6604016a
