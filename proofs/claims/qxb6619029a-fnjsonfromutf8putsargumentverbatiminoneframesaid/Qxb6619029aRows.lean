/-
  No cell of these rows narrows 'for every input' (looked for: loops, veiled, ifaces, maps, wideKeys, modest, calm, conditions, laid).
  DERIVED. THE GIVEN ROWS OF THIS SEAT. 1 by the template 'for every input the law returns true; each argument reads behind the call as it read before'; 0 by the template 'total and deterministic' (their statements: Qxb6619029aTotals.lean).
  GIVEN WITH THE SEED: the statements are not yours to turn. If you find one false, say at which input.
  Laid BY PROGRAM, IN A SANDBOX (cutbox-rows.mjs): the forced cells as the released guide's own fill.sh prints them over the translation 284b5fefd5b58c06… (all of the seat's roots in one cut). By AI agents, Wed Nov 11 2026. No macro, syntax, notation, axiom, sorry.
-/
import Derived.Test.Qxb6619029aChecked
import GoSem.Claim
import GoSem.ClaimJoined
import GoSem.ClaimMapViews
import Derived.JoinedTies
import Derived.KernelRfl
namespace Go.Proofs.Qxb6619029a
/- THE CELL 'sum', in the pinned program and in every row, IS THE sha256 OF THE DUMP (.gsa) THAT Qxb6619029aProg.lean LOADS. Nothing in Lean hashes anything: it is a label: what it is worth is what the hold of that sum in a sandbox is worth. -/
noncomputable def Try.pinned : Pinned := { name := "qxb6619029a", sum := "284b5fefd5b58c06b5fa0f03e6fca92041a0cc793bc58e142a3d2cf10a354aba", checked := Try.checked }
namespace Rows
def none {H : Type} : Left H := { results := [], args := [] }

/-- 'zzlaws_root_b1.FnJsonFromUTF8PutsArgumentVerbatimInOneFrame': WHATEVER THE INPUT: true; the input reads as it did. -/
def fnJsonFromUTF8PutsArgumentVerbatimInOneFrameSpec : ChangeSpec := { name := "fnJsonFromUTF8PutsArgumentVerbatimInOneFrame", fn := fun _ => fun
  | [d1, d2] => { results := [.lit (.bool true)], args := [d1, d2] }
  | _ => none }
def fnJsonFromUTF8PutsArgumentVerbatimInOneFrameRow : OpenClaim := { program := "qxb6619029a", sum := "284b5fefd5b58c06b5fa0f03e6fca92041a0cc793bc58e142a3d2cf10a354aba", func := "example.com/nursery/nursery/zzlaws_root_b1.FnJsonFromUTF8PutsArgumentVerbatimInOneFrame", spec := "fnJsonFromUTF8PutsArgumentVerbatimInOneFrame", apart := false }
def FnJsonFromUTF8PutsArgumentVerbatimInOneFrameSaid : Prop := fnJsonFromUTF8PutsArgumentVerbatimInOneFrameRow.holds Try.pinned (OpenSpec.ofChange fnJsonFromUTF8PutsArgumentVerbatimInOneFrameSpec)

/-- ITS FALSE NEIGHBOUR: 'it returns false'. Refute it at one input. -/
def fnJsonFromUTF8PutsArgumentVerbatimInOneFrameWrong : ChangeSpec := { name := "fnJsonFromUTF8PutsArgumentVerbatimInOneFrame", fn := fun _ => fun
  | [d1, d2] => { results := [.lit (.bool false)], args := [d1, d2] }
  | _ => none }
def FnJsonFromUTF8PutsArgumentVerbatimInOneFrameWrongFalsely : Prop := fnJsonFromUTF8PutsArgumentVerbatimInOneFrameRow.holds Try.pinned (OpenSpec.ofChange fnJsonFromUTF8PutsArgumentVerbatimInOneFrameWrong)

end Rows
end Go.Proofs.Qxb6619029a
