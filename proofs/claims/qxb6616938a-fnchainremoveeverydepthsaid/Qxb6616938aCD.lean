import Derived.Test.Qxb6616938aCC
namespace Go.Proofs.Qxb6616938a.A
open Go.ChangeShapes Go.WideShapes Go.ChangeAt Go.RowKit Go.Sort
set_option linter.unusedVariables false

/-- ZZchainDeepest -/
theorem deepest_any (pc B U : Nat) (sup : Int) (L : Int → List Nat) (c : Nat) (k : Int) (w : World) (h : Ch w B U pc sup L c) (hk : I32 k) :
    Calls Try.prog 23 #[.pointer (some ⟨pc, 0, none⟩), .int .i32 k] w fun e w' => e = .returned (.int .u32 ((L k).getLastD 0 : Nat)) ∧ ∃ q, w' = w.drewN q := by
  obtain ⟨xs, D, mv, pd, gb, hnm, h13, h15, hm, _, hD, _⟩ := h
  have hg := get_any pc B k xs D c w hnm
  rw [hD k hk] at hg
  obtain ⟨t, ht⟩ : ∃ t, t = (L k).getLastD 0 := ⟨_, rfl⟩
  rw [← ht] at hg ⊢
  have HG : Hid (Calls Try.prog 30 #[.pointer (some ⟨pc, 0, none⟩), .int .i32 k] w fun e w' => e = .returned (.int .u32 t) ∧ ∃ q, w' = w.drewN q) := hg
  clear hg hnm h13 h15 hm hD ht
  go_enter Try.func23, Try.ntmps23
  go_wp2_with fail
  refine HG.out.mono ?_
  rintro e w1 ⟨rfl, q, hw1⟩
  subst hw1
  clear HG
  go_wp2_with fail
  go_ret
  exact ⟨rfl, q, rfl⟩
end Go.Proofs.Qxb6616938a.A
