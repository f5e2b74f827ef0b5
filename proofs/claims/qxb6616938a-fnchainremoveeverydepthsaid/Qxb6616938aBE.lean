import Derived.Test.Qxb6616938aBD
namespace Go.Proofs.Qxb6616938a.A
open Go.ChangeShapes Go.WideShapes Go.ChangeAt Go.RowKit Go.Sort
set_option linter.unusedVariables false

/-- the cells of a new chain -/
def ch0 (sup : Int) : List Value := [.int .u64 0, .int .u64 0, .int .u64 0, .int .u64 0, .int .u64 0, .int .u64 0, .int .i64 0, .slice none 0 0, .int .i64 0, .int .i32 0, .int .i32 0, .int .i32 0, .int .i64 0, .int .i64 sup, .int .i64 0, .map none, .slice none 0 0, .int .i64 0, .int .i32 0, .int .i32 0, .int .i32 0]

/-- ZZnewChain -/
theorem newChain_any (sup : Int) (w : World) : Calls Try.prog 18 #[.int .i64 sup] w fun e w' => e = .returned (.pointer (some ⟨w.heap.size, 0, none⟩)) ∧ Rw w' w.heap.size 57 (ch0 sup) ∧ Kept [] w w' := by
  go_enter Try.func18, Try.ntmps18
  go_wp2_with fail
  go_ret
  exact ⟨rfl, heap_alloc_new w _, (Kept.refl _ _).alloc _⟩

/-- ZZchainSupports -/
theorem supports_any (pc : Nat) (sup : Int) (w : World) (h : w.cell? ⟨pc, 13, none⟩ = some (.int .i64 sup)) : Calls Try.prog 13 #[.pointer (some ⟨pc, 0, none⟩)] w fun e w' => e = .returned (.int .i64 sup) ∧ w' = w := by
  go_enter Try.func13, Try.ntmps13
  go_wp2_with fail
  go_ret
  exact ⟨rfl, rfl⟩

theorem nm_new {w : World} {pc B : Nat} {sup : Int} (h : Rw w pc 57 (ch0 sup)) (hB : B ≤ pc) : NM w B pc (ch0 sup) (fun _ => 0) 0 :=
  ⟨h, rfl, hB, .inl ⟨0, fun _ => 0, by omega, rfl, rfl, fun j hj => by
    obtain rfl | rfl | rfl | rfl | rfl | rfl : j = 0 ∨ j = 1 ∨ j = 2 ∨ j = 3 ∨ j = 4 ∨ j = 5 := by omega
    all_goals rfl, (Tbl.empty 0 (fun _ => 0)).toEnt, fun j hj => by omega, fun j hj => by show 0 < _; omega, by omega⟩⟩
end Go.Proofs.Qxb6616938a.A
