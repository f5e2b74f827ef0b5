import Derived.Test.Qxb6616938aBA
namespace Go.Proofs.Qxb6616938a.A
open Go.ChangeShapes Go.WideShapes Go.ChangeAt Go.RowKit Go.Sort
set_option linter.unusedVariables false

/-- zzEqualU32, where the two are one list -/
theorem equal_any (a a' : Option Addr) (g off c g' off' c' : Nat) (ds : List Nat) (w : World) (hs : Sl w a g off (ds.map u32)) (hs' : Sl w a' g' off' (ds.map u32)) (hl : ds.length ≤ 1099511627776) :
    Calls Try.prog 21 #[.slice a ds.length c, .slice a' ds.length c'] w fun e w' => e = .returned (.bool true) ∧ ∃ q, w' = w.drewN q := by
  have HS : Hid (Sl w a g off (ds.map u32)) := hs
  have HS' : Hid (Sl w a' g' off' (ds.map u32)) := hs'
  clear hs hs'
  go_enter Try.func21, Try.ntmps21
  go_wp2_with fail
  go_loopw [5] (fun t wr => ∃ k q : Nat, k ≤ ds.length ∧ t = .int .i64 k ∧ wr = w.drewN q) (fun t _ => ds.length - (intOf t).toNat)
  case atStart => exact ⟨0, 0, Nat.zero_le _, rfl, rfl⟩
  case round =>
    obtain ⟨k, q, hk, rfl, rfl⟩ := hrel
    by_cases hlt : k < ds.length
    · obtain rfl := HS.out.at_ (by simp; omega)
      obtain rfl := HS'.out.at_ (by simp; omega)
      obtain ⟨d, hd⟩ : ∃ d, ds[k]? = some d := ⟨_, List.getElem?_eq_getElem hlt⟩
      have e1 : w.cell? ⟨g, off + k, none⟩ = some (.int .u32 d) := HS.out.cells k (u32 d) (by simp [hd])
      have e2 : w.cell? ⟨g', off' + k, none⟩ = some (.int .u32 d) := HS'.out.cells k (u32 d) (by simp [hd])
      have hkI : (k : Int) < (ds.length : Int) := by omega
      clear hd
      go_wp2_with fail
      go_quiet (fail)
      go_wp2_with fail
      go_roundw
      case rel => exact ⟨k + 1, q + nq, by omega, by go_num, by simp⟩
      case measure => simp [intOf]; omega
    · go_wp2_with fail
      go_ret
      exact ⟨rfl, q, rfl⟩
end Go.Proofs.Qxb6616938a.A
