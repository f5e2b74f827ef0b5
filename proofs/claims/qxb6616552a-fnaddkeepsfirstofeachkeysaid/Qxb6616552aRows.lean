/-
  No cell of these rows narrows 'for every input' (looked for: loops, veiled, ifaces, maps, wideKeys, modest, calm, conditions, laid).
  DERIVED. THE GIVEN ROWS OF THIS SEAT. 2 by the template 'for every input the law returns true; each argument reads behind the call as it read before'; 0 by the template 'total and deterministic' (their statements: Qxb6616552aTotals.lean).
  GIVEN WITH THE SEED: the statements are not yours to turn. If you find one false, say at which input.
  Laid BY PROGRAM, IN A SANDBOX (cutbox-rows.mjs): the forced cells as the released guide's own fill.sh prints them over the translation 8203ad7de4e9c5fa… (all of the seat's roots in one cut). By AI agents, Wed Nov 11 2026. No macro, syntax, notation, axiom, sorry.
-/
import Derived.Test.Qxb6616552aChecked
import GoSem.Claim
import GoSem.ClaimJoined
import GoSem.ClaimMapViews
import Derived.JoinedTies
import Derived.KernelRfl
namespace Go.Proofs.Qxb6616552a
/- THE CELL 'sum', in the pinned program and in every row, IS THE sha256 OF THE DUMP (.gsa) THAT Qxb6616552aProg.lean LOADS. Nothing in Lean hashes anything: it is a label: what it is worth is what the hold of that sum in a sandbox is worth. -/
noncomputable def Try.pinned : Pinned := { name := "qxb6616552a", sum := "8203ad7de4e9c5fa142ce56d092e43b823ebe44d1f00db159aebf8ce0ce309ab", checked := Try.checked }
namespace Rows
def none {H : Type} : Left H := { results := [], args := [] }

/-- 'zzlaws_root_b1.FnAddKeepsFirstOfEachKey': WHATEVER THE INPUT: true; the input reads as it did. -/
def fnAddKeepsFirstOfEachKeySpec : ChangeSpec := { name := "fnAddKeepsFirstOfEachKey", fn := fun _ => fun
  | [d] => { results := [.lit (.bool true)], args := [d] }
  | _ => none }
def fnAddKeepsFirstOfEachKeyRow : OpenClaim := { program := "qxb6616552a", sum := "8203ad7de4e9c5fa142ce56d092e43b823ebe44d1f00db159aebf8ce0ce309ab", func := "example.com/kedge/kedge/zzlaws_root_b1.FnAddKeepsFirstOfEachKey", spec := "fnAddKeepsFirstOfEachKey", unfollowed := true, recurses := true, apart := false }
def FnAddKeepsFirstOfEachKeySaid : Prop := fnAddKeepsFirstOfEachKeyRow.holds Try.pinned (OpenSpec.ofChange fnAddKeepsFirstOfEachKeySpec)

/-- ITS FALSE NEIGHBOUR: 'it returns false'. Refute it at one input. -/
def fnAddKeepsFirstOfEachKeyWrong : ChangeSpec := { name := "fnAddKeepsFirstOfEachKey", fn := fun _ => fun
  | [d] => { results := [.lit (.bool false)], args := [d] }
  | _ => none }
def FnAddKeepsFirstOfEachKeyWrongFalsely : Prop := fnAddKeepsFirstOfEachKeyRow.holds Try.pinned (OpenSpec.ofChange fnAddKeepsFirstOfEachKeyWrong)

/-- 'zzlaws_root_b1.FnAddAnswersAsHasSaid': WHATEVER THE INPUT: true; the input reads as it did. -/
def fnAddAnswersAsHasSaidSpec : ChangeSpec := { name := "fnAddAnswersAsHasSaid", fn := fun _ => fun
  | [d1, d2] => { results := [.lit (.bool true)], args := [d1, d2] }
  | _ => none }
def fnAddAnswersAsHasSaidRow : OpenClaim := { program := "qxb6616552a", sum := "8203ad7de4e9c5fa142ce56d092e43b823ebe44d1f00db159aebf8ce0ce309ab", func := "example.com/kedge/kedge/zzlaws_root_b1.FnAddAnswersAsHasSaid", spec := "fnAddAnswersAsHasSaid", unfollowed := true, recurses := true, apart := false }
def FnAddAnswersAsHasSaidSaid : Prop := fnAddAnswersAsHasSaidRow.holds Try.pinned (OpenSpec.ofChange fnAddAnswersAsHasSaidSpec)

/-- ITS FALSE NEIGHBOUR: 'it returns false'. Refute it at one input. -/
def fnAddAnswersAsHasSaidWrong : ChangeSpec := { name := "fnAddAnswersAsHasSaid", fn := fun _ => fun
  | [d1, d2] => { results := [.lit (.bool false)], args := [d1, d2] }
  | _ => none }
def FnAddAnswersAsHasSaidWrongFalsely : Prop := fnAddAnswersAsHasSaidRow.holds Try.pinned (OpenSpec.ofChange fnAddAnswersAsHasSaidWrong)

end Rows
end Go.Proofs.Qxb6616552a
