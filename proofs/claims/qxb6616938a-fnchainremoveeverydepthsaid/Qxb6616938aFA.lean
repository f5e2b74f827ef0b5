import Derived.Test.Qxb6616938aEH
import Derived.OpenShut
import Derived.Deep.Slices
namespace Go.Proofs.Qxb6616938a.A
open Go.ChangeShapes Go.WideShapes Go.ChangeAt Go.RowKit Go.Deep
set_option linter.unusedVariables false

theorem cells21 : Try.prog.cellsOf 21 = 1 := by kernel_rfl
theorem cells24 : Try.prog.cellsOf 24 = 1 := by kernel_rfl
theorem cells28 : Try.prog.cellsOf 28 = 1 := by kernel_rfl

section
variable {H : Type} {enc : TypeId × Value → H} {w : World} {base : Nat} {spare : Nat → Bool} {held : Bool}

/-- a slice that is read: each cell bears R to its element -/
theorem row_of {α : Type} [Inhabited α] {T t : TypeId} (hT : Try.prog.underlying T = some (.slice t)) (hc : Try.prog.cellsOf t = 1) (R : Value → α → Prop)
    (hval : ∀ (n : Nat) (v : Value) (x : DataW H × List MemPlace), DataW.trod enc Try.prog w base spare held n t [v] = some x → ∃ y, R v y)
    {v : Value} {fuel : Nat} {x : DataW H × List MemPlace} (h : DataW.trod enc Try.prog w base spare held fuel T [v] = some x) :
    ∃ a b off cap, ∃ ys : List α, v = .slice a ys.length cap ∧ (0 < ys.length → a = some ⟨b, off, none⟩) ∧ ∀ j y, ys[j]? = some y → ∃ v, w.cell? ⟨b, off + j, none⟩ = some v ∧ R v y := by
  rcases open_slice1 hT hc h with ⟨hcs, _⟩ | ⟨ad, len, cap, m, n, V, D, Pl, hcs, _, hl, hm, hmm, _, hel⟩
  · injection hcs with hcs
    subst hcs
    exact ⟨none, 0, 0, 0, [], rfl, by simp, by simp⟩
  · injection hcs with hcs
    subst hcs
    have hlm : len ≤ m := by rw [hmm]; split <;> omega
    obtain ⟨q, hq⟩ := choose_lt (n := len) (p := fun i (y : α) => ∃ v, w.cell? (ad.add i) = some v ∧ R v y) (fun i hi => by
      obtain ⟨h1, h2⟩ := hel i (by omega)
      obtain ⟨y, hy⟩ := hval n _ _ h2
      exact ⟨y, _, h1, hy⟩)
    by_cases h0 : 0 < len
    · obtain ⟨b, off, spot⟩ := ad
      obtain ⟨v0, hv0, _⟩ := hq 0 h0
      have hspot : spot = none := by simpa [Addr.add] using World.cell?_spot hv0
      subst hspot
      refine ⟨_, b, off, cap, (List.range len).map q, by simp, fun _ => rfl, fun j y hj => ?_⟩
      have hil : j < len := by simpa using (List.getElem?_eq_some_iff.1 hj).1
      rw [List.getElem?_map, List.getElem?_range hil] at hj
      simp at hj
      obtain ⟨v, h1, h2⟩ := hq j hil
      rw [add_plain] at h1
      exact ⟨v, h1, hj ▸ h2⟩
    · have : len = 0 := by omega
      subst this
      exact ⟨some ad, 0, 0, cap, [], rfl, by simp, by simp⟩

theorem i32_of {n : Nat} {v : Value} {x : DataW H × List MemPlace} (h : DataW.trod enc Try.prog w base spare held n 21 [v] = some x) : ∃ y : Int, v = .int .i32 y ∧ I32 y := by
  obtain ⟨y, e, _, hw⟩ := DataW.trod_int Try.underlying21 h
  injection e with e
  have hw' : (decide (IntKind.i32.min ≤ y) && decide (y ≤ IntKind.i32.max)) = true := hw
  rw [Bool.and_eq_true, decide_eq_true_iff, decide_eq_true_iff] at hw'
  exact ⟨y, e, hw'⟩
theorem u32_of {n : Nat} {v : Value} {x : DataW H × List MemPlace} (h : DataW.trod enc Try.prog w base spare held n 24 [v] = some x) : ∃ y : Nat, v = u32 y ∧ y < 4294967296 := by
  obtain ⟨y, e, _, hw⟩ := DataW.trod_int Try.underlying24 h
  injection e with e
  have hw' : (decide (IntKind.u32.min ≤ y) && decide (y ≤ IntKind.u32.max)) = true := hw
  rw [Bool.and_eq_true, decide_eq_true_iff, decide_eq_true_iff] at hw'
  have h1 : (0 : Int) ≤ y := hw'.1
  have h2 : y ≤ (4294967295 : Int) := hw'.2
  obtain ⟨z, rfl⟩ := Int.eq_ofNat_of_zero_le h1
  exact ⟨z, e, by omega⟩

theorem ks_of {v : Value} {fuel : Nat} {x : DataW H × List MemPlace} (h : DataW.trod enc Try.prog w base spare held fuel 22 [v] = some x) :
    ∃ a b off cap, ∃ ks : List Int, v = .slice a ks.length cap ∧ Sl w a b off (ks.map (.int .i32)) ∧ ∀ k ∈ ks, I32 k := by
  obtain ⟨a, b, off, cap, ys, hv, ha, hc⟩ := row_of Try.underlying22 cells21 (fun v y => v = .int .i32 y ∧ I32 y) (fun n v x h => i32_of h) h
  refine ⟨a, b, off, cap, ys, hv, ⟨fun hh => ha (by simpa using hh), fun j u hj => ?_⟩, fun k hk => ?_⟩
  · rw [List.getElem?_map] at hj
    obtain ⟨y, hy, rfl⟩ := Option.map_eq_some_iff.1 hj
    obtain ⟨v, h1, rfl, _⟩ := hc j y hy
    exact h1
  · obtain ⟨j, hj⟩ := List.getElem?_of_mem hk
    obtain ⟨v, _, _, h2⟩ := hc j k hj
    exact h2

theorem ds_of {v : Value} {fuel : Nat} {x : DataW H × List MemPlace} (h : DataW.trod enc Try.prog w base spare held fuel 28 [v] = some x) :
    ∃ ds : List Nat, (∃ a b off cap, v = .slice a ds.length cap ∧ Sl w a b off (ds.map u32)) ∧ ∀ x ∈ ds, x < 4294967296 := by
  obtain ⟨a, b, off, cap, ys, hv, ha, hc⟩ := row_of Try.underlying28 cells24 (fun v y => v = u32 y ∧ y < 4294967296) (fun n v x h => u32_of h) h
  refine ⟨ys, ⟨a, b, off, cap, hv, ⟨fun hh => ha (by simpa using hh), fun j u hj => ?_⟩⟩, fun k hk => ?_⟩
  · rw [List.getElem?_map] at hj
    obtain ⟨y, hy, rfl⟩ := Option.map_eq_some_iff.1 hj
    obtain ⟨v, h1, rfl, _⟩ := hc j y hy
    exact h1
  · obtain ⟨j, hj⟩ := List.getElem?_of_mem hk
    obtain ⟨v, _, _, h2⟩ := hc j k hj
    exact h2

theorem dss_of {v : Value} {fuel : Nat} {x : DataW H × List MemPlace} (h : DataW.trod enc Try.prog w base spare held fuel 23 [v] = some x) :
    ∃ a b off cap, ∃ dss : List (List Nat), v = .slice a dss.length cap ∧ SS w a b off dss ∧ ∀ (j : Nat) (ds : List Nat), dss[j]? = some ds → ∀ x ∈ ds, x < 4294967296 := by
  obtain ⟨a, b, off, cap, ys, hv, ha, hc⟩ := row_of Try.underlying23 cells28 (fun v (ds : List Nat) => (∃ a b off cap, v = .slice a ds.length cap ∧ Sl w a b off (ds.map u32)) ∧ ∀ x ∈ ds, x < 4294967296) (fun n v x h => ds_of h) h
  refine ⟨a, b, off, cap, ys, hv, ⟨ha, fun j ds hj => ?_⟩, fun j ds hj => ?_⟩
  · obtain ⟨v, h1, ⟨a', b', off', cap', rfl, h2⟩, _⟩ := hc j ds hj
    exact ⟨a', b', off', cap', h1, h2⟩
  · obtain ⟨v, _, _, h2⟩ := hc j ds hj
    exact h2
end
end Go.Proofs.Qxb6616938a.A
