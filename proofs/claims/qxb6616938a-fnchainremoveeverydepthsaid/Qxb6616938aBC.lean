import Derived.Test.Qxb6616938aBB
namespace Go.Proofs.Qxb6616938a.A
open Go.ChangeShapes Go.WideShapes Go.ChangeAt Go.RowKit Go.Sort
set_option linter.unusedVariables false

/-- the first k are positive, each greater than the one before -/
def IncTo (ds : List Nat) (k : Nat) : Prop := (∀ j d, j < k → ds[j]? = some d → d ≠ 0) ∧ ∀ j d e, j + 1 < k → ds[j]? = some d → ds[j + 1]? = some e → d < e

set_option maxRecDepth 100000 in
/-- zzIncreasingPositive -/
theorem inc_any (a : Option Addr) (g off c : Nat) (ds : List Nat) (w : World) (hs : Sl w a g off (ds.map u32)) (hl : ds.length ≤ 1099511627776) :
    Calls Try.prog 7 #[.slice a ds.length c] w fun e w' => ∃ r, e = .returned (.bool r) ∧ (∃ q, w' = w.drewN q) ∧ (r = true → IncTo ds ds.length) := by
  have HS : Hid (Sl w a g off (ds.map u32)) := hs
  clear hs
  go_enter Try.func7, Try.ntmps7
  go_wp2_with fail
  go_loopw [3] (fun t wr => ∃ k q : Nat, k ≤ ds.length ∧ t = .int .i64 k ∧ IncTo ds k ∧ wr = w.drewN q) (fun t _ => ds.length - (intOf t).toNat)
  case atStart => exact ⟨0, 0, Nat.zero_le _, rfl, ⟨fun j d hj => by omega, fun j d e hj => by omega⟩, rfl⟩
  case round =>
    obtain ⟨k, q, hk, rfl, hinc, rfl⟩ := hrel
    have HI : Hid (IncTo ds k) := hinc
    clear hinc
    by_cases hlt : k < ds.length
    · obtain rfl := HS.out.at_ (by simp; omega)
      obtain ⟨d, hd⟩ : ∃ d, ds[k]? = some d := ⟨_, List.getElem?_eq_getElem hlt⟩
      have e1 : w.cell? ⟨g, off + k, none⟩ = some (.int .u32 d) := HS.out.cells k (u32 d) (by simp [hd])
      have HDk : Hid (ds[k]? = some d) := hd
      have hkI : (k : Int) < (ds.length : Int) := by omega
      clear hd
      by_cases hd0 : d = 0
      · subst hd0
        go_wp2_with fail
        go_ret
        exact ⟨false, rfl, ⟨q, rfl⟩, by simp⟩
      · have hd0' : ((d : Int) == 0) = false := by rw [beq_eq_false_iff_ne]; omega
        by_cases hk0 : k = 0
        · have hkz : decide ((0 : Int) < (k : Int)) = false := by rw [decide_eq_false_iff_not]; omega
          have hkz2 : decide (0 < k) = false := by rw [decide_eq_false_iff_not]; omega
          have hkz3 : ¬ 0 < k := by omega
          have HK0 : Hid (k = 0) := hk0
          clear hk0
          go_wp2_with fail
          go_quiet (fail)
          go_wp2_with fail
          go_roundw
          case rel =>
            refine ⟨k + 1, q + nq, by omega, by go_num, ⟨fun j x hj hx => ?_, fun j x y hj => by have := HK0.out; omega⟩, by simp⟩
            obtain rfl : j = k := by have := HK0.out; omega
            rw [HDk.out] at hx
            injection hx with hx
            omega
          case measure => simp [intOf]; omega
        · obtain ⟨p, rfl⟩ : ∃ p, k = p + 1 := ⟨k - 1, by omega⟩
          obtain ⟨b, hb⟩ : ∃ b, ds[p]? = some b := ⟨_, List.getElem?_eq_getElem (by omega)⟩
          have e2 : w.cell? ⟨g, off + p, none⟩ = some (.int .u32 b) := HS.out.cells p (u32 b) (by simp [hb])
          have HBp : Hid (ds[p]? = some b) := hb
          have hp1 : ((p + 1 : Nat) : Int) - 1 = (p : Int) := by omega
          have hpI : (p : Int) < (ds.length : Int) := by omega
          clear hb hk0
          by_cases hle : d ≤ b
          · have hle' : (d : Int) ≤ (b : Int) := by omega
            go_wp2_with fail
            go_quiet (fail)
            go_wp2_with fail
            go_ret
            exact ⟨false, rfl, ⟨q + nq, by simp⟩, by simp⟩
          · have hle' : ¬ (d : Int) ≤ (b : Int) := by omega
            go_wp2_with fail
            go_quiet (fail)
            go_wp2_with fail
            go_roundw
            case rel =>
              refine ⟨p + 1 + 1, q + nq, by omega, by go_num, ⟨fun j x hj hx => ?_, fun j x y hj hx hy => ?_⟩, by simp⟩
              · by_cases c : j = p + 1
                · subst c; rw [HDk.out] at hx; injection hx with hx; omega
                · exact HI.out.1 j x (by omega) hx
              · by_cases c : j = p
                · subst c
                  rw [HBp.out] at hx; rw [HDk.out] at hy
                  injection hx with hx; injection hy with hy
                  omega
                · exact HI.out.2 j x y (by omega) hx hy
            case measure => simp [intOf]; omega
    · obtain rfl : k = ds.length := by omega
      go_wp2_with fail
      go_ret
      exact ⟨true, rfl, ⟨q, rfl⟩, fun _ => HI.out⟩
end Go.Proofs.Qxb6616938a.A
