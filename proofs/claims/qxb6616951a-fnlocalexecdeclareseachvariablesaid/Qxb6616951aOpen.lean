import Derived.Test.Qxb6616951aH
import Derived.OpenShut
import Derived.Deep.Slices
namespace Go.Proofs.Qxb6616951a.A
open Go.ChangeShapes Go.WideShapes Go.ChangeAt Go.RowKit Go.Deep
set_option linter.unusedVariables false

theorem cells3 : Try.prog.cellsOf 3 = 1 := by kernel_rfl
theorem cells4 : Try.prog.cellsOf 4 = 1 := by kernel_rfl

section
variable {H : Type} {enc : TypeId × Value → H} {w : World} {base : Nat} {spare : Nat → Bool} {held : Bool}

/-- a slice of one-cell elements that are given by a function -/
theorem inS_of {α : Type} [Inhabited α] {T t : TypeId} (hT : Try.prog.underlying T = some (.slice t)) (hc : Try.prog.cellsOf t = 1) (f : α → Value) (hone : ∀ y, (f y).oneCell' = true)
    (hval : ∀ (n : Nat) (v : Value) (x : DataW H × List MemPlace), DataW.trod enc Try.prog w base spare held n t [v] = some x → ∃ y, v = f y)
    {a : Option Addr} {len cap fuel : Nat} {x : DataW H × List MemPlace} (h : DataW.trod enc Try.prog w base spare held fuel T [.slice a len cap] = some x) :
    ∃ b off, ∃ ys : List α, ys.length = len ∧ len ≤ 9223372036854775807 ∧ InS w a b off cap (ys.map f) := by
  rcases open_slice1 hT hc h with ⟨hcs, _⟩ | ⟨ad, len', cap', m, n, V, D, Pl, hcs, _, hl, hm, hmm, _, hel⟩
  · injection hcs with hcs
    injection hcs with e1 e2 e3
    subst e1 e2 e3
    exact ⟨0, 0, [], rfl, by omega, ⟨fun _ => ⟨rfl, rfl⟩, by simp, by simp, fun i u hi => by simp at hi, by simp⟩⟩
  · injection hcs with hcs
    injection hcs with e1 e2 e3
    subst e1 e2 e3
    have hlm : len ≤ m := by rw [hmm]; split <;> omega
    have hl63 : len ≤ 9223372036854775807 := by unfold maxLen at hm; omega
    obtain ⟨q, hq⟩ := choose_lt (n := len) (p := fun i (y : α) => w.cell? (ad.add i) = some (f y)) (fun i hi => by
      obtain ⟨h1, h2⟩ := hel i (by omega)
      obtain ⟨y, hy⟩ := hval n _ _ h2
      exact ⟨y, by rw [h1, hy]⟩)
    by_cases h0 : 0 < len
    · obtain ⟨b, off, spot⟩ := ad
      have hspot : spot = none := by simpa [Addr.add] using World.cell?_spot (hq 0 h0)
      subst hspot
      have hblk : b < w.heap.size := by
        have := World.block_lt_of_cell? _ _ (hq 0 h0)
        simpa [Addr.add] using this
      refine ⟨b, off, (List.range len).map q, by simp, hl63, ⟨by simp, fun _ => rfl, fun _ => hblk, fun i u hi => ?_, ?_⟩⟩
      · have hil : i < len := by simpa using (List.getElem?_eq_some_iff.1 hi).1
        rw [List.getElem?_map, List.getElem?_map, List.getElem?_range hil] at hi
        simp at hi
        have := hq i hil
        rw [add_plain] at this
        rw [this, hi]
      · intro u hu
        obtain ⟨y, _, rfl⟩ := List.mem_map.1 hu
        exact hone y
    · have : len = 0 := by omega
      subst this
      exact ⟨0, 0, [], rfl, by omega, ⟨by simp, by simp, by simp, fun i u hi => by simp at hi, by simp⟩⟩

theorem ints_of {a : Option Addr} {len cap fuel : Nat} {x : DataW H × List MemPlace} (h : DataW.trod enc Try.prog w base spare held fuel 24 [.slice a len cap] = some x) :
    ∃ b off, ∃ zs : List Int, zs.length = len ∧ len ≤ 9223372036854775807 ∧ InS w a b off cap (zs.map (.int .i64)) :=
  inS_of Try.underlying24 cells3 (Value.int .i64) (fun _ => rfl) (fun n v x h => by
    obtain ⟨y, e, _, _⟩ := DataW.trod_int Try.underlying3 h
    injection e with e
    exact ⟨y, e⟩) h
theorem bools_of {a : Option Addr} {len cap fuel : Nat} {x : DataW H × List MemPlace} (h : DataW.trod enc Try.prog w base spare held fuel 25 [.slice a len cap] = some x) :
    ∃ b off, ∃ zs : List Bool, zs.length = len ∧ len ≤ 9223372036854775807 ∧ InS w a b off cap (zs.map .bool) :=
  inS_of Try.underlying25 cells4 Value.bool (fun _ => rfl) (fun n v x h => by
    obtain ⟨y, e, _⟩ := DataW.trod_bool Try.underlying4 h
    injection e with e
    exact ⟨y, e⟩) h
end
end Go.Proofs.Qxb6616951a.A
