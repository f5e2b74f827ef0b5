import Derived.Test.Qxb6616938aAI
namespace Go.Proofs.Qxb6616938a.A
open Go.ChangeShapes Go.WideShapes Go.ChangeAt Go.RowKit Go.Sort
set_option linter.unusedVariables false

/-- a slice that is read: its cells are us -/
structure Sl (w : World) (a : Option Addr) (g off : Nat) (us : List Value) : Prop where
  at_ : 0 < us.length → a = some ⟨g, off, none⟩
  cells : ∀ (j : Nat) (u : Value), us[j]? = some u → w.cell? ⟨g, off + j, none⟩ = some u

theorem Sl.kept {w w' : World} {S : List Nat} {a : Option Addr} {g off : Nat} {us : List Value} (h : Sl w a g off us) (k : Kept S w w') (hn : g ∉ S) : Sl w' a g off us :=
  ⟨h.at_, fun j u hj => k.cell (h.cells j u hj) hn⟩

/-- zzIndexU32 -/
theorem index_any (a : Option Addr) (g off c : Nat) (ds : List Nat) (q : Nat) (w : World) (hs : Sl w a g off (ds.map u32)) (hl : ds.length ≤ 1099511627776) :
    Calls Try.prog 9 #[.slice a ds.length c, .int .u32 q] w fun e w' => ∃ r : Int, e = .returned (.int .i64 r) ∧ w' = w ∧ ((r = -1 ∧ q ∉ ds) ∨ ∃ p : Nat, r = p ∧ ds[p]? = some q ∧ ∀ j, j < p → ds[j]? ≠ some q) := by
  have HS : Hid (Sl w a g off (ds.map u32)) := hs
  clear hs
  go_enter Try.func9, Try.ntmps9
  go_wp2_with fail
  go_loopw [5] (fun t wr => ∃ k : Nat, k ≤ ds.length ∧ t = .int .i64 k ∧ (∀ j, j < k → ds[j]? ≠ some q) ∧ wr = w) (fun t _ => ds.length - (intOf t).toNat)
  case atStart => exact ⟨0, Nat.zero_le _, rfl, fun j hj => by omega, rfl⟩
  case round =>
    obtain ⟨k, hk, rfl, ha, hwr⟩ := hrel
    subst hwr
    have HA : Hid (∀ j, j < k → ds[j]? ≠ some q) := ha
    clear ha
    by_cases hlt : k < ds.length
    · obtain rfl := HS.out.at_ (by simp; omega)
      obtain ⟨d, hd⟩ : ∃ d, ds[k]? = some d := ⟨_, List.getElem?_eq_getElem hlt⟩
      have e1 : wr.cell? ⟨g, off + k, none⟩ = some (.int .u32 d) := HS.out.cells k (u32 d) (by simp [hd])
      have HDk : Hid (ds[k]? = some d) := hd
      have hkI : (k : Int) < (ds.length : Int) := by omega
      clear hd
      by_cases e : d = q
      · have e' : ((d : Int) == (q : Int)) = true := by rw [beq_iff_eq]; omega
        go_wp2_with fail
        go_ret
        exact ⟨k, rfl, rfl, .inr ⟨k, rfl, by rw [HDk.out, e], HA.out⟩⟩
      · have e' : ((d : Int) == (q : Int)) = false := by rw [beq_eq_false_iff_ne]; omega
        go_wp2_with fail
        go_roundw
        case rel =>
          refine ⟨k + 1, by omega, by go_num, fun j hj => ?_, by simp⟩
          by_cases c : j = k
          · subst c; rw [HDk.out]; simpa using e
          · exact HA.out j (by omega)
        case measure => simp [intOf]; omega
    · go_wp2_with fail
      go_ret
      refine ⟨-1, rfl, rfl, .inl ⟨rfl, fun hm => ?_⟩⟩
      obtain ⟨j, hj⟩ := List.getElem?_of_mem hm
      exact HA.out j (by have := (List.getElem?_eq_some_iff.1 hj).1; omega) hj

/-- zzLastIndexI32 -/
theorem lastIx_any (a : Option Addr) (g off c : Nat) (ks : List Int) (k : Int) (w : World) (hs : Sl w a g off (ks.map (.int .i32))) (hl : ks.length ≤ 1099511627776) :
    Calls Try.prog 8 #[.slice a ks.length c, .int .i32 k] w fun e w' => ∃ r : Int, e = .returned (.int .i64 r) ∧ w' = w ∧ ((r = -1 ∧ k ∉ ks) ∨ ∃ p : Nat, r = p ∧ ks[p]? = some k ∧ ∀ j, p < j → ks[j]? ≠ some k) := by
  have HS : Hid (Sl w a g off (ks.map (.int .i32))) := hs
  clear hs
  go_enter Try.func8, Try.ntmps8
  go_wp2_with fail
  go_loopw [5] (fun t wr => ∃ z : Int, t = .int .i64 z ∧ -1 ≤ z ∧ z < ks.length ∧ (∀ j : Nat, z < j → ks[j]? ≠ some k) ∧ wr = w) (fun t _ => (intOf t + 1).toNat)
  case atStart => exact ⟨_, rfl, by go_num, by go_num, fun j hj => by
    rw [List.getElem?_eq_none (by omega)]; simp, rfl⟩
  case round =>
    obtain ⟨z, rfl, h1, h2, ha, hwr⟩ := hrel
    subst hwr
    have HA : Hid (∀ j : Nat, z < j → ks[j]? ≠ some k) := ha
    clear ha
    by_cases hz : 0 ≤ z
    · obtain ⟨p, rfl⟩ := Int.eq_ofNat_of_zero_le hz
      obtain rfl := HS.out.at_ (by simp; omega)
      obtain ⟨d, hd⟩ : ∃ d, ks[p]? = some d := ⟨_, List.getElem?_eq_getElem (by omega)⟩
      have e1 : wr.cell? ⟨g, off + p, none⟩ = some (.int .i32 d) := HS.out.cells p (.int .i32 d) (by simp [hd])
      have HDk : Hid (ks[p]? = some d) := hd
      clear hd
      by_cases e : d = k
      · have e' : (d == k) = true := by rw [beq_iff_eq]; exact e
        go_wp2_with fail
        go_ret
        exact ⟨p, rfl, rfl, .inr ⟨p, rfl, by rw [HDk.out, e], fun j hj => HA.out j (by omega)⟩⟩
      · have e' : (d == k) = false := by rw [beq_eq_false_iff_ne]; exact e
        go_wp2_with fail
        go_roundw
        case rel =>
          refine ⟨(p : Int) - 1, by go_num, by omega, by omega, fun j hj => ?_, by simp⟩
          by_cases c : j = p
          · subst c; rw [HDk.out]; simpa using e
          · exact HA.out j (by omega)
        case measure => simp [intOf]
    · obtain rfl : z = -1 := by omega
      go_wp2_with fail
      go_ret
      refine ⟨-1, rfl, rfl, .inl ⟨rfl, fun hm => ?_⟩⟩
      obtain ⟨j, hj⟩ := List.getElem?_of_mem hm
      exact HA.out j (by omega) hj
end Go.Proofs.Qxb6616938a.A
