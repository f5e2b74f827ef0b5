/-
  No cell of these rows narrows 'for every input' (looked for: loops, veiled, ifaces, maps, wideKeys, modest, calm, conditions, laid).
  DERIVED. THE GIVEN ROWS OF THIS SEAT. 2 by the template 'for every input the law returns true; each argument reads behind the call as it read before'; 0 by the template 'total and deterministic' (their statements: Qxb6616938aTotals.lean).
  GIVEN WITH THE SEED: the statements are not yours to turn. If you find one false, say at which input.
  Laid BY PROGRAM, IN A SANDBOX (cutbox-rows.mjs): the forced cells as the released guide's own fill.sh prints them over the translation 814e3e17a252bd6d… (all of the seat's roots in one cut). By AI agents, Wed Nov 11 2026. No macro, syntax, notation, axiom, sorry.
-/
import Derived.Test.Qxb6616938aChecked
import GoSem.Claim
import GoSem.ClaimJoined
import GoSem.ClaimMapViews
import Derived.JoinedTies
import Derived.KernelRfl
namespace Go.Proofs.Qxb6616938a
/- THE CELL 'sum', in the pinned program and in every row, IS THE sha256 OF THE DUMP (.gsa) THAT Qxb6616938aProg.lean LOADS. Nothing in Lean hashes anything: it is a label: what it is worth is what the hold of that sum in a sandbox is worth. -/
noncomputable def Try.pinned : Pinned := { name := "qxb6616938a", sum := "814e3e17a252bd6dad69d41f2eecab88133aad2a3bcfce0b1bda863dd29f6ac7", checked := Try.checked }
namespace Rows
def none {H : Type} : Left H := { results := [], args := [] }

/-- 'zzlaws_root_b1.FnChainRemoveDepthExact': WHATEVER THE INPUT: true; the input reads as it did. -/
def fnChainRemoveDepthExactSpec : ChangeSpec := { name := "fnChainRemoveDepthExact", fn := fun _ => fun
  | [d1, d2, d3, d4, d5] => { results := [.lit (.bool true)], args := [d1, d2, d3, d4, d5] }
  | _ => none }
def fnChainRemoveDepthExactRow : OpenClaim := { program := "qxb6616938a", sum := "814e3e17a252bd6dad69d41f2eecab88133aad2a3bcfce0b1bda863dd29f6ac7", func := "example.com/dropa/dropa/zzlaws_root_b1.FnChainRemoveDepthExact", spec := "fnChainRemoveDepthExact", apart := false }
def FnChainRemoveDepthExactSaid : Prop := fnChainRemoveDepthExactRow.holds Try.pinned (OpenSpec.ofChange fnChainRemoveDepthExactSpec)

/-- ITS FALSE NEIGHBOUR: 'it returns false'. Refute it at one input. -/
def fnChainRemoveDepthExactWrong : ChangeSpec := { name := "fnChainRemoveDepthExact", fn := fun _ => fun
  | [d1, d2, d3, d4, d5] => { results := [.lit (.bool false)], args := [d1, d2, d3, d4, d5] }
  | _ => none }
def FnChainRemoveDepthExactWrongFalsely : Prop := fnChainRemoveDepthExactRow.holds Try.pinned (OpenSpec.ofChange fnChainRemoveDepthExactWrong)

/-- 'zzlaws_root_b1.FnChainRemoveEveryDepth': WHATEVER THE INPUT: true; the input reads as it did. -/
def fnChainRemoveEveryDepthSpec : ChangeSpec := { name := "fnChainRemoveEveryDepth", fn := fun _ => fun
  | [d1, d2, d3, d4, d5] => { results := [.lit (.bool true)], args := [d1, d2, d3, d4, d5] }
  | _ => none }
def fnChainRemoveEveryDepthRow : OpenClaim := { program := "qxb6616938a", sum := "814e3e17a252bd6dad69d41f2eecab88133aad2a3bcfce0b1bda863dd29f6ac7", func := "example.com/dropa/dropa/zzlaws_root_b1.FnChainRemoveEveryDepth", spec := "fnChainRemoveEveryDepth", apart := false }
def FnChainRemoveEveryDepthSaid : Prop := fnChainRemoveEveryDepthRow.holds Try.pinned (OpenSpec.ofChange fnChainRemoveEveryDepthSpec)

/-- ITS FALSE NEIGHBOUR: 'it returns false'. Refute it at one input. -/
def fnChainRemoveEveryDepthWrong : ChangeSpec := { name := "fnChainRemoveEveryDepth", fn := fun _ => fun
  | [d1, d2, d3, d4, d5] => { results := [.lit (.bool false)], args := [d1, d2, d3, d4, d5] }
  | _ => none }
def FnChainRemoveEveryDepthWrongFalsely : Prop := fnChainRemoveEveryDepthRow.holds Try.pinned (OpenSpec.ofChange fnChainRemoveEveryDepthWrong)

end Rows
end Go.Proofs.Qxb6616938a
