import Derived.Test.Qxb6616951aF
namespace Go.Proofs.Qxb6616951a.A
open Go.ChangeShapes Go.WideShapes Go.ChangeAt Go.RowKit
set_option linter.unusedVariables false

theorem same_any (x : Nat) (w : World) :
    Calls Try.prog 18 #[.float .f64 x, .float .f64 x] w fun e w' => e = .returned (.bool true) ∧ w' = w := by
  cases h : (FloatKind.f64.format.order x x == some .eq)
  · have h' : (FloatKind.f64.format.order x x != some .eq) = true := by simp [bne, h]
    go_enter Try.func18, Try.ntmps18
    go_wp2
    go_ret
    exact ⟨rfl, rfl⟩
  · go_enter Try.func18, Try.ntmps18
    go_wp2
    go_ret
    exact ⟨rfl, rfl⟩

theorem bytes10_any (v0 v1 v2 v5 v6 v7 : Value) (a a' : Option Addr) (n c n' c' : Nat) (w : World) (h : n ≤ 9223372036854775807) (h' : n' ≤ 9223372036854775807) :
    Calls Try.prog 10 #[v0, v1, v2, .slice a n c, .slice a' n' c', v5, v6, v7] w fun e w' => (∃ r, e = .returned (.bool r)) ∧ w' = w := by
  go_enter Try.func10, Try.ntmps10
  go_wp2
  all_goals (go_ret; exact ⟨⟨_, rfl⟩, rfl⟩)

theorem bytes19_any (v0 v1 v4 v5 : Value) (a a' : Option Addr) (n c n' c' : Nat) (w : World) (h : n ≤ 9223372036854775807) (h' : n' ≤ 9223372036854775807) :
    Calls Try.prog 19 #[v0, v1, .slice a n c, .slice a' n' c', v4, v5] w fun e w' => (∃ r, e = .returned (.bool r)) ∧ w' = w := by
  go_enter Try.func19, Try.ntmps19
  go_wp2
  all_goals (go_ret; exact ⟨⟨_, rfl⟩, rfl⟩)

end Go.Proofs.Qxb6616951a.A
