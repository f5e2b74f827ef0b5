import Derived.Test.Qxb6616938aAD
namespace Go.Proofs.Qxb6616938a.A
open Go.ChangeShapes Go.WideShapes Go.ChangeAt Go.RowKit
set_option linter.unusedVariables false

theorem sz24 : (Try.prog.info? 24).map (·.size) = some 1 := by kernel_rfl

/-- 's[k:]' -/
theorem slice_from {T t : TypeId} (hT : Try.prog.underlying T = some (.slice t)) (hs : (Try.prog.info? t).map (·.size) = some 1) (a : Option Addr) (n q k : Nat) (hk : k ≤ n) (hq : n ≤ q) (hq' : q ≤ 9223372036854775807) :
    ∃ a2, (∀ w, (Instr.slice T (.slice a n q) (some (.int .i64 k)) none none).run Try.prog w = .ok (.slice a2 (n - k) (q - k)) w) ∧ ∀ g, (k < n → a = some ⟨g, 0, none⟩) → k < n → a2 = some ⟨g, k, none⟩ := by
  have he : Try.prog.elem T = t := by simp [Program.elem, hT]
  refine ⟨if q = k then a else a.map (·.add (k * 1)), fun w => ?_, fun g h1 h2 => ?_⟩
  · rw [run_slice_l (P := Try.prog) (w := w) T a n q (by rw [he]; exact hT) .i64 k (by omega) (by omega), he]
    obtain ⟨i, hi, hz⟩ := Option.map_eq_some_iff.1 hs
    simp [sizeOf, typeInfo, hi, hz, sliced]
  · have hne : q ≠ k := by omega
    rw [if_neg hne, h1 h2, Nat.mul_one]
    show some ((⟨g, 0, none⟩ : Addr).add k) = _
    rw [add_plain, Nat.zero_add]

theorem items_any (pd n cap st : Nat) (a : Option Addr) (w : World) (c0 : w.cell? ⟨pd, 0, none⟩ = some (.slice a n cap)) (c1 : w.cell? ⟨pd, 1, none⟩ = some (.int .i64 st)) (h1 : st ≤ n) (h2 : n ≤ cap) (h3 : cap ≤ 9223372036854775807) :
    Calls Try.prog 28 #[.pointer (some ⟨pd, 0, none⟩)] w fun e w' => ∃ a2, e = .returned (.slice a2 (n - st) (cap - st)) ∧ (∀ g, (st < n → a = some ⟨g, 0, none⟩) → st < n → a2 = some ⟨g, st, none⟩) ∧ ∃ q, w' = w.drewN q := by
  obtain ⟨a2, hsl, ha⟩ := slice_from Try.underlying28 sz24 a n cap st h1 h2 h3
  have HA : Hid (∀ g, (st < n → a = some ⟨g, 0, none⟩) → st < n → a2 = some ⟨g, st, none⟩) := ha
  clear ha
  go_enter Try.func28, Try.ntmps28
  go_wp2_with fail
  go_quiet (fail)
  go_wp2_with fail
  go_ret
  exact ⟨a2, rfl, HA.out, _, rfl⟩

theorem len_any (pd n cap st : Nat) (a : Option Addr) (w : World) (c0 : w.cell? ⟨pd, 0, none⟩ = some (.slice a n cap)) (c1 : w.cell? ⟨pd, 1, none⟩ = some (.int .i64 st)) (h1 : st ≤ n) (h2 : n ≤ cap) (h3 : cap ≤ 9223372036854775807) :
    Calls Try.prog 34 #[.pointer (some ⟨pd, 0, none⟩)] w fun e w' => e = .returned (.int .i64 ((n - st : Nat) : Int)) ∧ ∃ q, w' = w.drewN q := by
  go_enter Try.func34, Try.ntmps34
  go_wp2_with fail
  go_quiet (fail)
  go_wp2_with fail
  go_ret
  refine ⟨?_, _, rfl⟩
  rw [show ((n - st : Nat) : Int) = (n : Int) - st from by omega]
  rfl

theorem isNaN_a (x : Int) (w : World) : Calls Try.prog 33 #[.int .u32 x] w fun e w' => e = .returned (.bool false) ∧ w' = w := by
  have hb : ((x : Int) != x) = false := by simp
  go_enter Try.func33, Try.ntmps33
  go_wp2_with fail
  go_ret
  exact ⟨rfl, rfl⟩
theorem isNaN_b (x : Int) (w : World) : Calls Try.prog 42 #[.int .u32 x] w fun e w' => e = .returned (.bool false) ∧ w' = w := by
  have hb : ((x : Int) != x) = false := by simp
  go_enter Try.func42, Try.ntmps42
  go_wp2_with fail
  go_ret
  exact ⟨rfl, rfl⟩
theorem less_any (x y : Int) (w : World) : Calls Try.prog 32 #[.int .u32 x, .int .u32 y] w fun e w' => e = .returned (.bool (decide (x < y))) ∧ w' = w := by
  go_enter Try.func32, Try.ntmps32
  go_wp2_with fail
  refine (isNaN_b _ _).mono ?_
  rintro e w1 ⟨rfl, hw1⟩
  subst hw1
  go_wp2_with fail
  go_ret
  exact ⟨rfl, rfl⟩

/-- slices.BinarySearch over increasing numbers: the place of one that is there -/
theorem bsearch_any (a : Option Addr) (g off n cap : Nat) (ds : Nat → Nat) (t : Nat) (w : World) (ha : 0 < n → a = some ⟨g, off, none⟩) (hc : ∀ i, i < n → w.cell? ⟨g, off + i, none⟩ = some (.int .u32 (ds i))) (hn : n ≤ 1099511627776) (hinc : ∀ i j, i < j → j < n → ds i < ds j) (p : Nat) (hp : p < n) (hpt : ds p = t) :
    Calls Try.prog 27 #[.slice a n cap, .int .u32 t] w fun e w' => e = .returned (.tuple #[.int .i64 p, .bool true]) ∧ w' = w := by
  obtain rfl := ha (by omega)
  have HC : Hid (∀ i, i < n → w.cell? ⟨g, off + i, none⟩ = some (.int .u32 (ds i))) := hc
  have HI : Hid (∀ i j, i < j → j < n → ds i < ds j) := hinc
  have HP : Hid (ds p = t) := hpt
  have HL : Hid (∀ (x y : Int) (w : World), Calls Try.prog 32 #[.int .u32 x, .int .u32 y] w fun e w' => e = .returned (.bool (decide (x < y))) ∧ w' = w) := less_any
  clear hc hinc hpt ha
  go_enter Try.func27, Try.ntmps27
  go_wp2_with fail
  go_loopw [7, 8] (fun i j wr => ∃ (i' j' : Nat), i = .int .i64 i' ∧ j = .int .i64 j' ∧ i' ≤ p ∧ p ≤ j' ∧ j' ≤ n ∧ wr = w) (fun i j _ => ((intOf j) - (intOf i)).toNat)
  case atStart => exact ⟨0, n, rfl, rfl, by omega, by omega, by omega, rfl⟩
  case round =>
    obtain ⟨i, j, rfl, rfl, h1, h2, h3, hwr⟩ := hrel
    subst hwr
    by_cases hij : i < j
    · obtain ⟨h, hh⟩ : ∃ h, h = (i + j) / 2 := ⟨_, rfl⟩
      have hhe : ((i : Int) + (j : Int)) / 2 = (h : Int) := by omega
      have hhn : h < n := by omega
      have e1 := HC.out h hhn
      have hhI : (h : Int) < (n : Int) := by omega
      by_cases hlt : ds h < t
      · have hpi : h + 1 ≤ p := by
          by_cases e : h < p
          · omega
          · rcases Nat.lt_or_eq_of_le (Nat.le_of_not_lt e) with e2 | e2
            · have := HI.out p h e2 hhn; have := HP.out; omega
            · have := HP.out; rw [e2] at this; omega
        have HH : Hid (h = (i + j) / 2) := hh
        clear hh
        go_wp2_with (go_at_call 32; refine (HL.out _ _ _).mono ?_; rintro e w1 ⟨rfl, hw1⟩; subst hw1)
        go_roundw
        case rel => exact ⟨h + 1, j, by go_num, rfl, hpi, h2, h3, trivial⟩
        case measure => have := HH.out; simp [intOf]; omega
      · have hpi : p ≤ h := by
          by_cases e : p ≤ h
          · exact e
          · have := HI.out h p (by omega) hp; have := HP.out; omega
        have HH : Hid (h = (i + j) / 2) := hh
        clear hh
        go_wp2_with (go_at_call 32; refine (HL.out _ _ _).mono ?_; rintro e w1 ⟨rfl, hw1⟩; subst hw1)
        go_roundw
        case rel => exact ⟨i, h, rfl, rfl, h1, hpi, by omega, trivial⟩
        case measure => have := HH.out; simp [intOf]; omega
    · obtain rfl : i = p := by omega
      have e1 := HC.out i hp
      rw [HP.out] at e1
      have hiI : (i : Int) < (n : Int) := by omega
      go_wp2_with fail
      go_ret2
      exact ⟨rfl, rfl⟩
end Go.Proofs.Qxb6616938a.A
