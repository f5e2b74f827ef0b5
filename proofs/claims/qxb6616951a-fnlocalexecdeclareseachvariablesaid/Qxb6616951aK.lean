import Derived.Test.Qxb6616951aJ
namespace Go.Proofs.Qxb6616951a.A
open Go.ChangeShapes Go.WideShapes Go.ChangeAt Go.RowKit
set_option linter.unusedVariables false

/-- the number of the last of the variables from k on that names slot j, else -1 (k counts down) -/
def lix (vs : Vs) : Nat → Nat → Int
  | 0, _ => -1
  | d + 1, j => if lix vs d j < 0 then (match vs[vs.length - (d + 1)]? with | some v => if v.1 = j then ((vs.length - (d + 1) : Nat) : Int) else -1 | none => -1) else lix vs d j

theorem lastOf_drop_succ (vs : Vs) (i j : Nat) (v : Nat × Bool) (h : vs[i]? = some v) : lastOf (vs.drop i) j = match lastOf (vs.drop (i + 1)) j with | some c => some c | none => if v.1 = j then some v.2 else none := by
  obtain ⟨hi, hv⟩ := List.getElem?_eq_some_iff.1 h
  rw [List.drop_eq_getElem_cons hi, hv]
  rfl

theorem lix_spec (vs : Vs) (d : Nat) (hd : d ≤ vs.length) (j : Nat) :
    (lix vs d j < 0 → lix vs d j = -1 ∧ lastOf (vs.drop (vs.length - d)) j = none) ∧
    (0 ≤ lix vs d j → ∃ k v, lix vs d j = (k : Nat) ∧ vs[k]? = some v ∧ v.1 = j ∧ lastOf (vs.drop (vs.length - d)) j = some v.2) := by
  induction d with
  | zero => simp [lix, lastOf]
  | succ d ih =>
    obtain ⟨ih1, ih2⟩ := ih (by omega)
    have hi : vs.length - (d + 1) < vs.length := by omega
    obtain ⟨v, hv⟩ : ∃ v, vs[vs.length - (d + 1)]? = some v := ⟨_, List.getElem?_eq_getElem hi⟩
    have hdrop := lastOf_drop_succ vs (vs.length - (d + 1)) j v hv
    rw [show vs.length - (d + 1) + 1 = vs.length - d from by omega] at hdrop
    by_cases hlt : lix vs d j < 0
    · obtain ⟨e1, e2⟩ := ih1 hlt
      rw [e2] at hdrop
      simp only at hdrop
      have hl : lix vs (d + 1) j = if v.1 = j then ((vs.length - (d + 1) : Nat) : Int) else -1 := by
        simp only [lix, if_pos hlt, hv]
      rw [hl, hdrop]
      by_cases e : v.1 = j
      · simp only [if_pos e]
        refine ⟨fun h => by omega, fun _ => ⟨_, v, rfl, hv, e, rfl⟩⟩
      · simp only [if_neg e]
        exact ⟨fun _ => ⟨trivial, trivial⟩, fun h => by omega⟩
    · obtain ⟨k, u, e1, e2, e3, e4⟩ := ih2 (by omega)
      rw [e4] at hdrop
      simp only at hdrop
      have hl : lix vs (d + 1) j = lix vs d j := by simp only [lix, if_neg hlt]
      rw [hl, hdrop]
      exact ⟨fun h => absurd h hlt, fun _ => ⟨k, u, e1, e2, e3, rfl⟩⟩

def lastIx (vs : Vs) (j : Nat) : Int := lix vs vs.length j
theorem lastIx_neg {vs : Vs} {j : Nat} (h : lastIx vs j < 0) : lastIx vs j = -1 ∧ lastOf vs j = none := by
  have := (lix_spec vs vs.length (Nat.le_refl _) j).1 h
  rw [Nat.sub_self, List.drop_zero] at this
  exact this
theorem lastIx_pos {vs : Vs} {j : Nat} (h : 0 ≤ lastIx vs j) : ∃ k v, lastIx vs j = (k : Nat) ∧ vs[k]? = some v ∧ v.1 = j ∧ lastOf vs j = some v.2 := by
  have := (lix_spec vs vs.length (Nat.le_refl _) j).2 h
  rw [Nat.sub_self, List.drop_zero] at this
  exact this

/-- captured, as the laws read it -/
structure Cap (w : World) (a : Option Addr) (g q : Nat) (vs : Vs) : Prop where
  at_ : 0 < vs.length → a = some ⟨g, 0, none⟩
  cells : ∀ (i : Nat) (v : Nat × Bool), vs[i]? = some v → w.cell? ⟨g, i, none⟩ = some (.bool v.2)

theorem Cap.of {w : World} {a a' : Option Addr} {g off g' : Nat} {vs : Vs} (h : Src w a a' g off g' 0 vs) (q : Nat) : Cap w a' g' q vs :=
  ⟨h.at2, fun i v hi => by have := h.c2 i v hi; simpa using this⟩

set_option maxRecDepth 100000 in
set_option maxHeartbeats 1000000 in
theorem slotsOK_any (ga gb gl gc n x q : Nat) (a : Option Addr) (vs : Vs) (w : World) (h1 : Rw w ga 3 (tab (fun j => .int .i64 (kind (upd (fun _ => none) vs j))) n)) (h2 : Rw w gb 26 (tab (fun j => .float .f64 (num (upd (fun _ => none) vs j) x)) n))
    (h3 : Rw w gl 3 (tab (fun j => .int .i64 (lastIx vs j)) n)) (h4 : Cap w a gc q vs) (hn : n ≤ 4096) (hv : vs.length ≤ 4096) :
    Calls Try.prog 20 #[.slice (some ⟨ga, 0, none⟩) n n, .slice (some ⟨gb, 0, none⟩) n n, .slice (some ⟨gl, 0, none⟩) n n, .slice a vs.length q, .float .f64 x] w fun e w' => e = .returned (.bool true) ∧ w' = w := by
  have H1 : Hid (Rw w ga 3 (tab (fun j => .int .i64 (kind (upd (fun _ => none) vs j))) n)) := h1
  have H2 : Hid (Rw w gb 26 (tab (fun j => .float .f64 (num (upd (fun _ => none) vs j) x)) n)) := h2
  have H3 : Hid (Rw w gl 3 (tab (fun j => .int .i64 (lastIx vs j)) n)) := h3
  have H4 : Hid (Cap w a gc q vs) := h4
  clear h1 h2 h3 h4
  go_enter Try.func20, Try.ntmps20
  go_wp2_with fail
  go_loopw [11] (fun t wr => ∃ j : Nat, j ≤ n ∧ t = .int .i64 j ∧ wr = w) (fun t _ => n - (intOf t).toNat)
  case atStart => exact ⟨0, Nat.zero_le _, rfl, rfl⟩
  case round =>
    obtain ⟨j, hj, rfl, hwr⟩ := hrel
    subst hwr
    by_cases hlt : j < n
    · have hjI : (j : Int) < (n : Int) := by omega
      have y1 := H1.out.cell hlt
      have y2 := H2.out.cell hlt
      have y3 := H3.out.cell hlt
      simp only [upd] at y1 y2
      by_cases hl : lastIx vs j < 0
      · obtain ⟨e1, e2⟩ := lastIx_neg hl
        rw [e1] at y3
        rw [e2] at y1 y2
        simp only [kind, num] at y1 y2
        have HSM : Hid (∀ q, Calls Try.prog 18 #[.float .f64 x, .float .f64 x] q fun e w' => e = .returned (.bool true) ∧ w' = q) := fun q => same_any x q
        clear e1 e2 hl
        go_wp2_with (go_at_call 18; refine (HSM.out _).mono ?_; rintro e wq ⟨rfl, rfl⟩)
        go_roundw
        case rel => exact ⟨j + 1, by omega, by go_num, by simp⟩
        case measure => simp [intOf]; omega
      · obtain ⟨k, v, e1, e2, e3, e4⟩ := lastIx_pos (by omega : 0 ≤ lastIx vs j)
        have hkl : k < vs.length := (List.getElem?_eq_some_iff.1 e2).1
        have y4 := H4.out.cells k v e2
        obtain rfl := H4.out.at_ (by omega)
        have hkI : (k : Int) < (vs.length : Int) := by omega
        rw [e1] at y3
        rw [e4] at y1 y2
        clear e1 e2 e3 e4 hl
        obtain ⟨v1, v2⟩ := v
        cases v2
        all_goals
          simp only [kind, num] at y1 y2 y4
          go_wp2_with fail
          go_roundw
          case rel => exact ⟨j + 1, by omega, by go_num, by simp⟩
          case measure => simp [intOf]; omega
    · go_wp2_with fail
      go_ret
      exact ⟨rfl, rfl⟩

end Go.Proofs.Qxb6616951a.A
