import Derived.Test.Qxb6616938aEA
namespace Go.Proofs.Qxb6616938a.A
open Go.ChangeShapes Go.WideShapes Go.ChangeAt Go.RowKit Go.Sort
set_option linter.unusedVariables false

set_option maxRecDepth 100000 in
set_option maxHeartbeats 1000000 in
/-- zzBytes -/
theorem bytes3 (sup k : Int) (a a2 : Option Addr) (n c g off c2 : Nat) (dss : List (List Nat)) (q : Int) (w : World) (hs : SS w a2 g off dss) :
    Calls Try.prog 5 #[.int .i64 sup, .slice a n c, .slice a2 dss.length c2, .int .i32 k, .int .u32 q] w fun e w' => Ret e True ∧ w' = w := by
  have HS : Hid (SS w a2 g off dss) := hs
  clear hs
  by_cases h1 : n ≤ 1048576
  · have h1I : (n : Int) ≤ 1048576 := by omega
    by_cases h2 : dss.length ≤ 1048576
    · have h2I : (dss.length : Int) ≤ 1048576 := by omega
      by_cases h3 : n + dss.length ≤ 1048576
      · have h3I : (n : Int) + (dss.length : Int) ≤ 1048576 := by omega
        go_enter Try.func5, Try.ntmps5
        go_wp2_with fail
        go_loopw [11, 12] (fun s t wr => ∃ k z : Nat, k ≤ dss.length ∧ t = .int .i64 k ∧ s = .int .i64 z ∧ z ≤ 1048576 ∧ wr = w) (fun _ t _ => dss.length - (intOf t).toNat)
        case atStart => exact ⟨0, n + dss.length, Nat.zero_le _, rfl, by go_num, by omega, rfl⟩
        case round =>
          obtain ⟨k, z, hk, rfl, rfl, hz, hwr⟩ := hrel
          subst hwr
          by_cases hlt : k < dss.length
          · obtain rfl := HS.out.at_ (by omega)
            obtain ⟨ds, hd⟩ : ∃ d, dss[k]? = some d := ⟨_, List.getElem?_eq_getElem hlt⟩
            obtain ⟨a', g', off', c', e1, _⟩ := HS.out.cells k ds hd
            obtain ⟨m, hm⟩ : ∃ m, m = ds.length := ⟨_, rfl⟩
            rw [← hm] at e1
            have hkI : (k : Int) < (dss.length : Int) := by omega
            clear hm hd
            by_cases hm1 : m ≤ 1048576
            · have hm1I : (m : Int) ≤ 1048576 := by omega
              by_cases hz1 : z + m ≤ 1048576
              · have hz1I : (z : Int) + (m : Int) ≤ 1048576 := by omega
                go_wp2_with fail
                go_roundw
                case rel => exact ⟨k + 1, z + m, by omega, by go_num, by go_num, hz1, trivial⟩
                case measure => simp [intOf]; omega
              · have hz2I : 1048576 < (z : Int) + (m : Int) := by omega
                go_wp2_with fail
                go_ret
                exact ⟨Ret.no, rfl⟩
            · have hm1I : 1048576 < (m : Int) := by omega
              go_wp2_with fail
              go_ret
              exact ⟨Ret.no, rfl⟩
          · go_wp2_with fail
            go_ret
            exact ⟨Ret.yes trivial, rfl⟩
      · have h3I : 1048576 < (n : Int) + (dss.length : Int) := by omega
        go_enter Try.func5, Try.ntmps5
        go_wp2_with fail
        go_ret
        exact ⟨Ret.no, rfl⟩
    · have h2I : 1048576 < (dss.length : Int) := by omega
      go_enter Try.func5, Try.ntmps5
      go_wp2_with fail
      go_ret
      exact ⟨Ret.no, rfl⟩
  · have h1I : 1048576 < (n : Int) := by omega
    go_enter Try.func5, Try.ntmps5
    go_wp2_with fail
    go_ret
    exact ⟨Ret.no, rfl⟩

set_option maxRecDepth 100000 in
set_option maxHeartbeats 1000000 in
/-- zzBytes -/
theorem bytes4 (sup k : Int) (a a2 : Option Addr) (n c g off c2 : Nat) (dss : List (List Nat)) (a3 : Option Addr) (nq0 c3 : Nat) (w : World) (hs : SS w a2 g off dss) :
    Calls Try.prog 16 #[.int .i64 sup, .slice a n c, .slice a2 dss.length c2, .int .i32 k, .slice a3 nq0 c3] w fun e w' => Ret e True ∧ w' = w := by
  have HS : Hid (SS w a2 g off dss) := hs
  clear hs
  by_cases h1 : n ≤ 1048576
  · have h1I : (n : Int) ≤ 1048576 := by omega
    by_cases h2 : dss.length ≤ 1048576
    · have h2I : (dss.length : Int) ≤ 1048576 := by omega
      by_cases h3 : n + dss.length ≤ 1048576
      · have h3I : (n : Int) + (dss.length : Int) ≤ 1048576 := by omega
        go_enter Try.func16, Try.ntmps16
        go_wp2_with fail
        go_loopw [11, 12] (fun s t wr => ∃ k z : Nat, k ≤ dss.length ∧ t = .int .i64 k ∧ s = .int .i64 z ∧ z ≤ 1048576 ∧ wr = w) (fun _ t _ => dss.length - (intOf t).toNat)
        case atStart => exact ⟨0, n + dss.length, Nat.zero_le _, rfl, by go_num, by omega, rfl⟩
        case round =>
          obtain ⟨k, z, hk, rfl, rfl, hz, hwr⟩ := hrel
          subst hwr
          by_cases hlt : k < dss.length
          · obtain rfl := HS.out.at_ (by omega)
            obtain ⟨ds, hd⟩ : ∃ d, dss[k]? = some d := ⟨_, List.getElem?_eq_getElem hlt⟩
            obtain ⟨a', g', off', c', e1, _⟩ := HS.out.cells k ds hd
            obtain ⟨m, hm⟩ : ∃ m, m = ds.length := ⟨_, rfl⟩
            rw [← hm] at e1
            have hkI : (k : Int) < (dss.length : Int) := by omega
            clear hm hd
            by_cases hm1 : m ≤ 1048576
            · have hm1I : (m : Int) ≤ 1048576 := by omega
              by_cases hz1 : z + m ≤ 1048576
              · have hz1I : (z : Int) + (m : Int) ≤ 1048576 := by omega
                go_wp2_with fail
                go_roundw
                case rel => exact ⟨k + 1, z + m, by omega, by go_num, by go_num, hz1, trivial⟩
                case measure => simp [intOf]; omega
              · have hz2I : 1048576 < (z : Int) + (m : Int) := by omega
                go_wp2_with fail
                go_ret
                exact ⟨Ret.no, rfl⟩
            · have hm1I : 1048576 < (m : Int) := by omega
              go_wp2_with fail
              go_ret
              exact ⟨Ret.no, rfl⟩
          · by_cases hq1 : nq0 ≤ 1048576
            · have hq1I : (nq0 : Int) ≤ 1048576 := by omega
              by_cases hq2 : z + nq0 ≤ 1048576
              · have hq2I : (z : Int) + (nq0 : Int) ≤ 1048576 := by omega
                go_wp2_with fail
                go_ret
                exact ⟨Ret.yes trivial, rfl⟩
              · have hq2I : 1048576 < (z : Int) + (nq0 : Int) := by omega
                go_wp2_with fail
                go_ret
                exact ⟨Ret.no, rfl⟩
            · have hq1I : 1048576 < (nq0 : Int) := by omega
              go_wp2_with fail
              go_ret
              exact ⟨Ret.no, rfl⟩
      · have h3I : 1048576 < (n : Int) + (dss.length : Int) := by omega
        go_enter Try.func16, Try.ntmps16
        go_wp2_with fail
        go_ret
        exact ⟨Ret.no, rfl⟩
    · have h2I : 1048576 < (dss.length : Int) := by omega
      go_enter Try.func16, Try.ntmps16
      go_wp2_with fail
      go_ret
      exact ⟨Ret.no, rfl⟩
  · have h1I : 1048576 < (n : Int) := by omega
    go_enter Try.func16, Try.ntmps16
    go_wp2_with fail
    go_ret
    exact ⟨Ret.no, rfl⟩

end Go.Proofs.Qxb6616938a.A
