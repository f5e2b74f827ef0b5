import Derived.Test.Qxb6616938aDI
namespace Go.Proofs.Qxb6616938a.A
open Go.ChangeShapes Go.WideShapes Go.ChangeAt Go.RowKit Go.Sort
set_option linter.unusedVariables false

/-- a slice of slices of numbers -/
structure SS (w : World) (a : Option Addr) (g off : Nat) (dss : List (List Nat)) : Prop where
  at_ : 0 < dss.length → a = some ⟨g, off, none⟩
  cells : ∀ (j : Nat) (ds : List Nat), dss[j]? = some ds → ∃ a' g' off' c', w.cell? ⟨g, off + j, none⟩ = some (.slice a' ds.length c') ∧ Sl w a' g' off' (ds.map u32)

theorem cell_below {B : Nat} {w w' : World} (h : Below B w w') (hB : w.heap.size ≤ B) {p : Addr} {v : Value} (hc : w.cell? p = some v) : w'.cell? p = some v := by
  have hl : p.block < w.heap.size := World.block_lt_of_cell? _ _ hc
  rw [World.cell?_of_block (w := w) (h.block p.block (by omega))]
  exact hc
theorem Sl.below {B : Nat} {w w' : World} (h : Below B w w') (hB : w.heap.size ≤ B) {a : Option Addr} {g off : Nat} {us : List Value} (s : Sl w a g off us) : Sl w' a g off us := ⟨s.at_, fun j u hj => cell_below h hB (s.cells j u hj)⟩
theorem SS.below {B : Nat} {w w' : World} (h : Below B w w') (hB : w.heap.size ≤ B) {a : Option Addr} {g off : Nat} {dss : List (List Nat)} (s : SS w a g off dss) : SS w' a g off dss := ⟨s.at_, fun j ds hj => by
  obtain ⟨a', g', off', c', h1, h2⟩ := s.cells j ds hj
  exact ⟨a', g', off', c', cell_below h hB h1, h2.below h hB⟩⟩
theorem Kept.low {w w' : World} (h : Kept [] w w') : Below w.heap.size w w' := h.below (Nat.le_refl _) (by simp)
theorem Sl.kept0 {w w' : World} (h : Kept [] w w') {a : Option Addr} {g off : Nat} {us : List Value} (s : Sl w a g off us) : Sl w' a g off us := s.below h.low (Nat.le_refl _)
theorem SS.kept0 {w w' : World} (h : Kept [] w w') {a : Option Addr} {g off : Nat} {dss : List (List Nat)} (s : SS w a g off dss) : SS w' a g off dss := s.below h.low (Nat.le_refl _)
theorem Sl.nil {w : World} {a : Option Addr} {g off : Nat} {us : List Value} (s : Sl w a g off us) (h : a = none) : us = [] := by
  cases us with
  | nil => rfl
  | cons x r => have := s.at_ (by simp); rw [h] at this; cases this

/-- a truth value was answered; where it is true, P holds -/
def Ret (e : Ending) (P : Prop) : Prop := ∃ r : Bool, e = .returned (.bool r) ∧ (r = true → P)
theorem Ret.no {P : Prop} : Ret (.returned (.bool false)) P := ⟨false, rfl, fun h => by cases h⟩
theorem Ret.yes {P : Prop} (h : P) : Ret (.returned (.bool true)) P := ⟨true, rfl, fun _ => h⟩

def SizeFit (n : Nat) (dss : List (List Nat)) : Prop := n ≤ 4096 ∧ dss.length ≤ 4096 ∧ ∀ (j : Nat) (ds : List Nat), dss[j]? = some ds → ds.length ≤ 262144

set_option maxRecDepth 100000 in
set_option maxHeartbeats 1000000 in
/-- zzChainSizeOK -/
theorem sizeOK_any (a a2 : Option Addr) (n c g off c2 : Nat) (dss : List (List Nat)) (w : World) (hs : SS w a2 g off dss) :
    Calls Try.prog 6 #[.slice a n c, .slice a2 dss.length c2] w fun e w' => Ret e (SizeFit n dss) ∧ w' = w := by
  have HS : Hid (SS w a2 g off dss) := hs
  clear hs
  by_cases h1 : n ≤ 4096
  · by_cases h2 : dss.length ≤ 4096
    · have h1I : (n : Int) ≤ 4096 := by omega
      have h2I : (dss.length : Int) ≤ 4096 := by omega
      go_enter Try.func6, Try.ntmps6
      go_wp2_with fail
      go_loopw [5, 6] (fun s t wr => ∃ k z : Nat, k ≤ dss.length ∧ t = .int .i64 k ∧ s = .int .i64 z ∧ z ≤ 1048576 ∧ (∀ (j : Nat) (ds : List Nat), j < k → dss[j]? = some ds → ds.length ≤ 262144) ∧ wr = w) (fun _ t _ => dss.length - (intOf t).toNat)
      case atStart => exact ⟨0, 4 * n + 24 * dss.length, Nat.zero_le _, rfl, by go_num, by omega, fun j ds hj => by omega, rfl⟩
      case round =>
        obtain ⟨k, z, hk, rfl, rfl, hz, ha, hwr⟩ := hrel
        subst hwr
        have HA : Hid (∀ (j : Nat) (ds : List Nat), j < k → dss[j]? = some ds → ds.length ≤ 262144) := ha
        clear ha
        by_cases hlt : k < dss.length
        · obtain rfl := HS.out.at_ (by omega)
          obtain ⟨ds, hd⟩ : ∃ d, dss[k]? = some d := ⟨_, List.getElem?_eq_getElem hlt⟩
          obtain ⟨a', g', off', c', e1, _⟩ := HS.out.cells k ds hd
          obtain ⟨m, hm⟩ : ∃ m, m = ds.length := ⟨_, rfl⟩
          rw [← hm] at e1
          have HM : Hid (m = ds.length ∧ dss[k]? = some ds) := ⟨hm, hd⟩
          have hkI : (k : Int) < (dss.length : Int) := by omega
          clear hm hd
          by_cases hm1 : m ≤ 262144
          · by_cases hz1 : z + 4 * m ≤ 1048576
            · have hm1I : (m : Int) ≤ 262144 := by omega
              have hz1I : (z : Int) + 4 * (m : Int) ≤ 1048576 := by omega
              go_wp2_with fail
              go_roundw
              case rel =>
                refine ⟨k + 1, z + 4 * m, by omega, by go_num, by go_num, hz1, fun j ds' hj hd' => ?_, trivial⟩
                by_cases e : j = k
                · subst e
                  have := HM.out
                  rw [this.2] at hd'
                  obtain rfl := Option.some.inj hd'
                  omega
                · exact HA.out j ds' (by omega) hd'
              case measure => simp [intOf]; omega
            · have hm1I : (m : Int) ≤ 262144 := by omega
              have hz1I : ¬ (z : Int) + 4 * (m : Int) ≤ 1048576 := by omega
              have hz2I : 1048576 < (z : Int) + 4 * (m : Int) := by omega
              go_wp2_with fail
              go_ret
              exact ⟨Ret.no, rfl⟩
          · have hm1I : 262144 < (m : Int) := by omega
            go_wp2_with fail
            go_ret
            exact ⟨Ret.no, rfl⟩
        · go_wp2_with fail
          go_ret
          exact ⟨Ret.yes ⟨h1, h2, fun j ds hj => HA.out j ds (by have := (List.getElem?_eq_some_iff.1 hj).1; omega) hj⟩, rfl⟩
    · have h1I : (n : Int) ≤ 4096 := by omega
      have h2I : 4096 < (dss.length : Int) := by omega
      go_enter Try.func6, Try.ntmps6
      go_wp2_with fail
      go_ret
      exact ⟨Ret.no, rfl⟩
  · have h1I : 4096 < (n : Int) := by omega
    go_enter Try.func6, Try.ntmps6
    go_wp2_with fail
    go_ret
    exact ⟨Ret.no, rfl⟩
end Go.Proofs.Qxb6616938a.A
