import Derived.Test.Qxb6616552aRows
import Derived.WalkKit
import Derived.ProofKit
import Derived.Outline
import Derived.Maps.OwnSet
import Derived.Deep.QuietTactic
import Derived.BigQuiet
import Derived.Deep.RegionHeld3
import Derived.Deep.AppendLies
namespace Go.Proofs.Qxb6616552a.A
open Go.ChangeShapes Go.WideShapes Go.ChangeAt Go.RowKit Go.Maps
set_option linter.unusedVariables false

/-- one field: key, kind, text -/
structure Fd where
  key : ByteArray
  kind : Int
  text : ByteArray

def hasK (l : List Fd) (k : ByteArray) : Bool := l.any fun f => f.key.toList == k.toList
def memC (f : Fd) : List Value := [.string f.key, .int .u8 f.kind, .string f.text, .bool false]
def memCells (l : List Fd) : List Value := l.flatMap memC

theorem ret_bool {a b : Bool} (h : a = b) : Ending.returned (.bool a) = .returned (.bool b) := by rw [h]

theorem new_any (w : World) :
    Calls Try.prog 6 #[] w fun e w' => e = .returned (.pointer (some ⟨w.heap.size, 0, none⟩)) ∧ w' = w.alloc (.cells #[.slice none 0 0, .map none, .nilIface] 42) := by
  go_enter Try.func6, Try.ntmps6
  go_wp2
  go_ret
  exact ⟨rfl, rfl⟩

theorem count_any (p n : Nat) (a : Option Addr) (c : Nat) (w : World) (h0 : w.cell? ⟨p, 0, none⟩ = some (.slice a n c)) :
    Calls Try.prog 9 #[.pointer (some ⟨p, 0, none⟩)] w fun e w' => e = .returned (.int .i64 n) ∧ w' = w := by
  go_enter Try.func9, Try.ntmps9
  go_wp2
  go_ret
  exact ⟨rfl, rfl⟩

theorem err_any (p : Nat) (w : World) (h0 : w.cell? ⟨p, 2, none⟩ = some .nilIface) :
    Calls Try.prog 14 #[.pointer (some ⟨p, 0, none⟩)] w fun e w' => e = .returned .nilIface ∧ w' = w := by
  go_enter Try.func14, Try.ntmps14
  go_wp2
  go_ret
  exact ⟨rfl, rfl⟩

theorem key_any (p g n c i : Nat) (s : ByteArray) (w : World) (h0 : w.cell? ⟨p, 0, none⟩ = some (.slice (some ⟨g, 0, none⟩) n c)) (hi : i < n) (h1 : w.cell? ⟨g, i * 4, none⟩ = some (.string s)) :
    Calls Try.prog 10 #[.pointer (some ⟨p, 0, none⟩), .int .i64 i] w fun e w' => e = .returned (.string s) ∧ w' = w := by
  go_enter Try.func10, Try.ntmps10
  go_wp2
  go_ret
  exact ⟨rfl, rfl⟩

theorem kind_any (p g n c i : Nat) (s : Int) (w : World) (h0 : w.cell? ⟨p, 0, none⟩ = some (.slice (some ⟨g, 0, none⟩) n c)) (hi : i < n) (h1 : w.cell? ⟨g, i * 4 + 1, none⟩ = some (.int .u8 s)) (hs : 0 ≤ s ∧ s ≤ 255) :
    Calls Try.prog 11 #[.pointer (some ⟨p, 0, none⟩), .int .i64 i] w fun e w' => e = .returned (.int .u8 s) ∧ w' = w := by
  go_enter Try.func11, Try.ntmps11
  go_wp2
  go_ret
  exact ⟨rfl, rfl⟩

theorem text_any (p g n c i : Nat) (s : ByteArray) (w : World) (h0 : w.cell? ⟨p, 0, none⟩ = some (.slice (some ⟨g, 0, none⟩) n c)) (hi : i < n) (h1 : w.cell? ⟨g, i * 4 + 2, none⟩ = some (.string s)) :
    Calls Try.prog 12 #[.pointer (some ⟨p, 0, none⟩), .int .i64 i] w fun e w' => e = .returned (.string s) ∧ w' = w := by
  go_enter Try.func12, Try.ntmps12
  go_wp2
  go_ret
  exact ⟨rfl, rfl⟩

theorem taken_any (p g n c i : Nat) (s : Bool) (w : World) (h0 : w.cell? ⟨p, 0, none⟩ = some (.slice (some ⟨g, 0, none⟩) n c)) (hi : i < n) (h1 : w.cell? ⟨g, i * 4 + 3, none⟩ = some (.bool s)) :
    Calls Try.prog 13 #[.pointer (some ⟨p, 0, none⟩), .int .i64 i] w fun e w' => e = .returned (.bool s) ∧ w' = w := by
  go_enter Try.func13, Try.ntmps13
  go_wp2
  go_ret
  exact ⟨rfl, rfl⟩

end Go.Proofs.Qxb6616552a.A
