import Derived.Test.Qxb6616951aL
import Derived.Deep.CutBlock
namespace Go.Proofs.Qxb6616951a.A
open Go.ChangeShapes Go.WideShapes Go.ChangeAt Go.RowKit
set_option linter.unusedVariables false

theorem lix_succ {vs : Vs} {d : Nat} {v : Nat × Bool} (h : vs[vs.length - (d + 1)]? = some v) (j : Nat) :
    lix vs (d + 1) j = if lix vs d j < 0 then (if v.1 = j then ((vs.length - (d + 1) : Nat) : Int) else -1) else lix vs d j := by
  simp only [lix, h]

theorem lix_set {vs : Vs} {d m : Nat} {v : Nat × Bool} (h : vs[vs.length - (d + 1)]? = some v) (hd : d ≤ vs.length) (hn : lix vs d v.1 < 0) :
    (tab (fun j => .int .i64 (lix vs d j)) m).set v.1 (.int .i64 ((vs.length - (d + 1) : Nat) : Int)) = tab (fun j => .int .i64 (lix vs (d + 1) j)) m := by
  rw [tab_set]
  apply tab_congr
  intro j _
  rw [lix_succ h]
  by_cases e : j = v.1
  · subst e; simp [hn]
  · have e' : ¬ v.1 = j := fun h => e h.symm
    rw [if_neg e]
    by_cases hl : lix vs d j < 0
    · rw [if_pos hl, if_neg e', ((lix_spec vs d hd j).1 hl).1]
    · rw [if_neg hl]
theorem lix_stay {vs : Vs} {d m : Nat} {v : Nat × Bool} (h : vs[vs.length - (d + 1)]? = some v) (hd : d ≤ vs.length) (hn : ¬ lix vs d v.1 < 0) :
    tab (fun j => .int .i64 (lix vs d j)) m = tab (fun j => .int .i64 (lix vs (d + 1) j)) m := by
  apply tab_congr
  intro j _
  rw [lix_succ h]
  by_cases hl : lix vs d j < 0
  · have e' : ¬ v.1 = j := fun e => hn (by rw [e]; exact hl)
    rw [if_pos hl, if_neg e', ((lix_spec vs d hd j).1 hl).1]
  · rw [if_neg hl]

theorem Shows.one {w : World} {xs : List Value} {n x : Nat} {d : Nat → Option Bool} (h : Shows w xs n x d) : ∀ u ∈ xs, u.oneCell' = true := by
  intro u hu
  obtain ⟨i, hi⟩ := List.getElem?_of_mem hu
  have hl : i < n := by have := (List.getElem?_eq_some_iff.1 hi).1; rw [h.1] at this; exact this
  obtain ⟨s1, s2, s3⟩ := h.2 i hl
  cases hd : d i with
  | none => rw [s1 hd] at hi; injection hi with hi; rw [← hi]; rfl
  | some b =>
    cases b with
    | false => rw [s2 hd] at hi; injection hi with hi; rw [← hi]; rfl
    | true => obtain ⟨c, h1, _⟩ := s3 hd; rw [h1] at hi; injection hi with hi; rw [← hi]; rfl

set_option maxRecDepth 100000 in
set_option maxHeartbeats 1000000 in
theorem law5_out (line cost ns : Int) (x : Nat) (a a' : Option Addr) (c c' n n' : Nat) (w : World) (hz : n ≤ 9223372036854775807) (hb : n' ≤ 9223372036854775807)
    (hT : ¬ (n ≤ 4096 ∧ n' ≤ 4096 ∧ 0 ≤ ns ∧ ns ≤ 4096 ∧ n' = n)) :
    Calls Try.prog 5 #[.int .i64 line, .int .i64 cost, .slice a n c, .slice a' n' c', .int .i64 ns, .float .f64 x] w fun e w' => e = .returned (.bool true) ∧ Below w.heap.size w w' := by
  have HB : Hid (Calls Try.prog 19 #[.int .i64 line, .int .i64 cost, .slice a n c, .slice a' n' c', .int .i64 ns, .float .f64 x] w fun e w' => (∃ r, e = .returned (.bool r)) ∧ w' = w) := bytes19_any _ _ _ _ a a' _ c _ c' w hz hb
  go_enter Try.func5, Try.ntmps5
  go_wp2_with fail
  refine HB.out.mono ?_
  rintro e w' ⟨⟨r, rfl⟩, rfl⟩
  cases r
  · go_wp2_with fail
    go_ret
    exact ⟨rfl, Below.refl _ _⟩
  by_cases q1 : 4096 < n
  · go_wp2_with fail
    go_ret
    exact ⟨rfl, Below.refl _ _⟩
  by_cases q2 : 4096 < n'
  · go_wp2_with fail
    go_ret
    exact ⟨rfl, Below.refl _ _⟩
  by_cases q3 : ns < 0
  · go_wp2_with fail
    go_ret
    exact ⟨rfl, Below.refl _ _⟩
  by_cases q4 : 4096 < ns
  · go_wp2_with fail
    go_ret
    exact ⟨rfl, Below.refl _ _⟩
  have q5 : (n' : Int) ≠ n := by omega
  have q5' : ((n' : Int) != (n : Int)) = true := by rw [bne_iff_ne]; exact q5
  go_wp2_with fail
  go_ret
  exact ⟨rfl, Below.refl _ _⟩

end Go.Proofs.Qxb6616951a.A
