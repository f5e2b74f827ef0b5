import Derived.Test.Qxb6616938aCB
namespace Go.Proofs.Qxb6616938a.A
open Go.ChangeShapes Go.WideShapes Go.ChangeAt Go.RowKit Go.Sort
set_option linter.unusedVariables false

/-- ZZchainKeepsDepths -/
theorem keeps_any (pc B U : Nat) (sup : Int) (L : Int → List Nat) (c : Nat) (k : Int) (w : World) (h : Ch w B U pc sup L c) (hk : I32 k) :
    Calls Try.prog 24 #[.pointer (some ⟨pc, 0, none⟩), .int .i32 k] w fun e w' => e = .returned (.bool (decide (2 ≤ (L k).length))) ∧ w' = w := by
  obtain ⟨xs, D, mv, pd, gb, hnm, h13, h15, hm, _, _, _⟩ := h
  have c15 : w.cell? ⟨pc, 15, none⟩ = some mv := by rw [cells_of hnm.blk 15]; simpa using h15
  obtain ⟨v, hl, _⟩ := hm.look k hk hk
  obtain ⟨t, ht⟩ : ∃ t, Hid (t = decide (2 ≤ (L k).length)) := ⟨_, rfl⟩
  rw [← ht.out] at hl ⊢
  clear hnm h13 h15 hm
  go_enter Try.func24, Try.ntmps24
  go_wp2_with fail
  go_ret
  exact ⟨rfl, rfl⟩
end Go.Proofs.Qxb6616938a.A
