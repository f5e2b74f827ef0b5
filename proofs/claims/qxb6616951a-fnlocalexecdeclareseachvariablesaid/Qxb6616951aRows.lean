/-
  No cell of these rows narrows 'for every input' (looked for: loops, veiled, ifaces, maps, wideKeys, modest, calm, conditions, laid).
  DERIVED. THE GIVEN ROWS OF THIS SEAT. 3 by the template 'for every input the law returns true; each argument reads behind the call as it read before'; 0 by the template 'total and deterministic' (their statements: Qxb6616951aTotals.lean).
  GIVEN WITH THE SEED: the statements are not yours to turn. If you find one false, say at which input.
  Laid BY PROGRAM, IN A SANDBOX (cutbox-rows.mjs): the forced cells as the released guide's own fill.sh prints them over the translation 162df25f68d5eafa… (all of the seat's roots in one cut). By AI agents, Wed Nov 11 2026. No macro, syntax, notation, axiom, sorry.
-/
import Derived.Test.Qxb6616951aChecked
import GoSem.Claim
import GoSem.ClaimJoined
import GoSem.ClaimMapViews
import Derived.JoinedTies
import Derived.KernelRfl
namespace Go.Proofs.Qxb6616951a
/- THE CELL 'sum', in the pinned program and in every row, IS THE sha256 OF THE DUMP (.gsa) THAT Qxb6616951aProg.lean LOADS. Nothing in Lean hashes anything: it is a label: what it is worth is what the hold of that sum in a sandbox is worth. -/
noncomputable def Try.pinned : Pinned := { name := "qxb6616951a", sum := "162df25f68d5eafa34c4ddf8faad9d9424fc4083022dae7564450d7b87227aa0", checked := Try.checked }
namespace Rows
def none {H : Type} : Left H := { results := [], args := [] }

/-- 'zzlaws_lua_b1.FnIsDigitClassesAndCount': WHATEVER THE INPUT: true; the input reads as it did. -/
def fnIsDigitClassesAndCountSpec : ChangeSpec := { name := "fnIsDigitClassesAndCount", fn := fun _ => fun
  | [d] => { results := [.lit (.bool true)], args := [d] }
  | _ => none }
def fnIsDigitClassesAndCountRow : OpenClaim := { program := "qxb6616951a", sum := "162df25f68d5eafa34c4ddf8faad9d9424fc4083022dae7564450d7b87227aa0", func := "example.com/helmstone/helmstone/zzlaws_lua_b1.FnIsDigitClassesAndCount", spec := "fnIsDigitClassesAndCount", apart := false }
def FnIsDigitClassesAndCountSaid : Prop := fnIsDigitClassesAndCountRow.holds Try.pinned (OpenSpec.ofChange fnIsDigitClassesAndCountSpec)

/-- ITS FALSE NEIGHBOUR: 'it returns false'. Refute it at one input. -/
def fnIsDigitClassesAndCountWrong : ChangeSpec := { name := "fnIsDigitClassesAndCount", fn := fun _ => fun
  | [d] => { results := [.lit (.bool false)], args := [d] }
  | _ => none }
def FnIsDigitClassesAndCountWrongFalsely : Prop := fnIsDigitClassesAndCountRow.holds Try.pinned (OpenSpec.ofChange fnIsDigitClassesAndCountWrong)

/-- 'zzlaws_lua_b1.FnLocalExecSplitIntoTwo': WHATEVER THE INPUT: true; the input reads as it did. -/
def fnLocalExecSplitIntoTwoSpec : ChangeSpec := { name := "fnLocalExecSplitIntoTwo", fn := fun _ => fun
  | [d1, d2, d3, d4, d5, d6, d7, d8] => { results := [.lit (.bool true)], args := [d1, d2, d3, d4, d5, d6, d7, d8] }
  | _ => none }
def fnLocalExecSplitIntoTwoRow : OpenClaim := { program := "qxb6616951a", sum := "162df25f68d5eafa34c4ddf8faad9d9424fc4083022dae7564450d7b87227aa0", func := "example.com/helmstone/helmstone/zzlaws_lua_b1.FnLocalExecSplitIntoTwo", spec := "fnLocalExecSplitIntoTwo", unfollowed := true, recurses := true, apart := false }
def FnLocalExecSplitIntoTwoSaid : Prop := fnLocalExecSplitIntoTwoRow.holds Try.pinned (OpenSpec.ofChange fnLocalExecSplitIntoTwoSpec)

/-- ITS FALSE NEIGHBOUR: 'it returns false'. Refute it at one input. -/
def fnLocalExecSplitIntoTwoWrong : ChangeSpec := { name := "fnLocalExecSplitIntoTwo", fn := fun _ => fun
  | [d1, d2, d3, d4, d5, d6, d7, d8] => { results := [.lit (.bool false)], args := [d1, d2, d3, d4, d5, d6, d7, d8] }
  | _ => none }
def FnLocalExecSplitIntoTwoWrongFalsely : Prop := fnLocalExecSplitIntoTwoRow.holds Try.pinned (OpenSpec.ofChange fnLocalExecSplitIntoTwoWrong)

/-- 'zzlaws_lua_b1.FnLocalExecDeclaresEachVariable': WHATEVER THE INPUT: true; the input reads as it did. -/
def fnLocalExecDeclaresEachVariableSpec : ChangeSpec := { name := "fnLocalExecDeclaresEachVariable", fn := fun _ => fun
  | [d1, d2, d3, d4, d5, d6] => { results := [.lit (.bool true)], args := [d1, d2, d3, d4, d5, d6] }
  | _ => none }
def fnLocalExecDeclaresEachVariableRow : OpenClaim := { program := "qxb6616951a", sum := "162df25f68d5eafa34c4ddf8faad9d9424fc4083022dae7564450d7b87227aa0", func := "example.com/helmstone/helmstone/zzlaws_lua_b1.FnLocalExecDeclaresEachVariable", spec := "fnLocalExecDeclaresEachVariable", unfollowed := true, recurses := true, apart := false }
def FnLocalExecDeclaresEachVariableSaid : Prop := fnLocalExecDeclaresEachVariableRow.holds Try.pinned (OpenSpec.ofChange fnLocalExecDeclaresEachVariableSpec)

/-- ITS FALSE NEIGHBOUR: 'it returns false'. Refute it at one input. -/
def fnLocalExecDeclaresEachVariableWrong : ChangeSpec := { name := "fnLocalExecDeclaresEachVariable", fn := fun _ => fun
  | [d1, d2, d3, d4, d5, d6] => { results := [.lit (.bool false)], args := [d1, d2, d3, d4, d5, d6] }
  | _ => none }
def FnLocalExecDeclaresEachVariableWrongFalsely : Prop := fnLocalExecDeclaresEachVariableRow.holds Try.pinned (OpenSpec.ofChange fnLocalExecDeclaresEachVariableWrong)

end Rows
end Go.Proofs.Qxb6616951a
