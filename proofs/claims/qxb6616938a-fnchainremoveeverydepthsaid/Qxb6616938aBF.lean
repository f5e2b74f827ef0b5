import Derived.Test.Qxb6616938aBE
import Derived.Maps.OwnSet
namespace Go.Proofs.Qxb6616938a.A
open Go.ChangeShapes Go.WideShapes Go.ChangeAt Go.RowKit Go.Sort
set_option linter.unusedVariables false

/-- how a pointer reads, in the map of deques -/
def ptrElem : Value → Option (DataW Unit × List MemPlace)
  | .pointer (some ⟨p, 0, none⟩) => some (.lit (.int .u64 p), [])
  | .pointer none => some (.nil, [])
  | _ => none

theorem ptrElem_inv {v : Value} {p : Nat} {ps : List MemPlace} (h : ptrElem v = some (.lit (.int .u64 p), ps)) : v = .pointer (some ⟨p, 0, none⟩) := by
  unfold ptrElem at h
  split at h
  · simp at h; rw [Int.ofNat_inj.1 h.1]
  · simp at h
  · cases h
theorem law21 : Maps.Keyed Try.prog 21 := Maps.int_keyed Try.underlying21
end Go.Proofs.Qxb6616938a.A
