import Derived.Test.Qxb6616938aCA
namespace Go.Proofs.Qxb6616938a.A
open Go.ChangeShapes Go.WideShapes Go.ChangeAt Go.RowKit Go.Sort
set_option linter.unusedVariables false

theorem key_of (k : Int) (hk : I32 k) : keyOf Try.prog 21 (.int .i32 k) = some (.int .i32 k) :=
  Maps.keyOf_int_mk Try.underlying21 (by
    show (decide (IntKind.i32.min ≤ k) && decide (k ≤ IntKind.i32.max)) = true
    rw [Bool.and_eq_true, decide_eq_true_iff, decide_eq_true_iff]; exact hk)

theorem MapOf.look {w : World} {B U : Nat} {mv : Value} {P : Int → Prop} {L : Int → List Nat} {pd : Int → Nat} {c : Nat} (h : MapOf w B U mv P L pd c) (k : Int) (hk : I32 k) (hp : P k) :
    ∃ v, (Instr.lookup 51 mv (.int .i32 k) true).run Try.prog w = .ok (.tuple #[v, .bool (decide (2 ≤ (L k).length))]) w ∧ (2 ≤ (L k).length → v = .pointer (some ⟨pd k, 0, none⟩)) := by
  rcases h with ⟨rfl, h⟩ | ⟨b, D, rfl, hB, hU, ho, h1, h2⟩
  · have hl := h k hp
    have := Maps.look_nil (P := Try.prog) (w := w) true law21 Try.underlying51 (Try.zeroValue63 w) (key_of k hk)
    refine ⟨.pointer none, ?_, fun hh => by omega⟩
    rw [this, decide_eq_false (by omega)]
    rfl
  · obtain ⟨v, ps, hr, hv⟩ := ho.look_ok law21 Try.underlying51 (Try.zeroValue63 w) (zd := .nil) (zp := []) rfl (key_of k hk)
    by_cases hl : 2 ≤ (L k).length
    · obtain ⟨a1, a2⟩ := h1 k hp hl
      rw [a2] at hv
      refine ⟨v, ?_, fun _ => ptrElem_inv hv⟩
      rw [hr, a1, decide_eq_true hl]
    · refine ⟨v, ?_, fun hh => absurd hh hl⟩
      rw [hr, h2 k hp (by omega), decide_eq_false hl]
end Go.Proofs.Qxb6616938a.A
