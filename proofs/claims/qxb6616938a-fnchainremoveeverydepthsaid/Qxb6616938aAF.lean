import Derived.Test.Qxb6616938aAE
import Derived.Shelf.SlicesE.Delete
import Derived.Shelf.SlGeneric
import Derived.Ground.SlgnProg
namespace Go.Proofs
open Go.Shelf
shelf_lay_g SlLaysE.n45 Slgn 45 at Try 35 as Try.delU32
end Go.Proofs
namespace Go.Proofs.Qxb6616938a.A
open Go.ChangeShapes Go.WideShapes Go.ChangeAt Go.RowKit Go.Sort
set_option linter.unusedVariables false

def u32 (x : Nat) : Value := .int .u32 x

theorem putRow_block (enc : Nat → Value) {w : World} {g t : Nat} {ys : List Value} (h : Rw w g t ys) (off : Nat) (d : Array Nat) (q : Nat) : ∃ ys', Rw (putRow enc (Sort.ahead w q) g off d) g t ys' := by
  refine ⟨(putCells enc off d ys.toArray).toList, ?_⟩
  unfold Rw at h ⊢
  show (w.heap.modify g (onCells (putCells enc off d)))[g]? = _
  rw [Array.getElem?_modify, if_pos rfl, h]
  rfl
theorem putRow_kept (enc : Nat → Value) (w : World) (g off : Nat) (d : Array Nat) (q : Nat) : Kept [g] w (putRow enc (Sort.ahead w q) g off d) :=
  ⟨rfl, rfl, rfl, by show _ ≤ (w.heap.modify g _).size; simp, fun k hk hn => by
    show (w.heap.modify g (onCells (putCells enc off d)))[k]? = _
    rw [Array.getElem?_modify, if_neg (fun e => hn (by simp [e]))]⟩

theorem delete_any (g n cap i : Nat) (vs ys : List Nat) (zs : List Value) (w : World) (hr : Rw w g 24 zs) (hv : vs.length = n) (hc : ∀ (j v : Nat), vs[j]? = some v → w.cell? ⟨g, j, none⟩ = some (u32 v)) (hi : i < n) (hn : n ≤ cap) (hm : cap ≤ 9223372036854775807) (hy : ys = vs.take i ++ vs.drop (i + 1)) :
    Calls Try.prog 35 #[.slice (some ⟨g, 0, none⟩) n cap, .int .i64 i, .int .i64 ((i : Int) + 1)] w fun e w' => e = .returned (.slice (some ⟨g, 0, none⟩) (n - 1) cap) ∧ (∃ zs', Rw w' g 24 zs') ∧ (∀ (j v : Nat), ys[j]? = some v → w'.cell? ⟨g, j, none⟩ = some (u32 v)) ∧ Kept [g] w w' := by
  have hH : Holds u32 w g 0 vs.toArray := fun j hj => by
    have hj' : j < vs.length := by simpa using hj
    refine ⟨?_, free_of hr _⟩
    rw [Nat.zero_add, hc j vs[j] (List.getElem?_eq_getElem hj')]
    rw [getElem!_pos _ j hj]
    simp
  obtain ⟨i24, hi24, hz24⟩ := Option.map_eq_some_iff.1 sz24
  have h := AnyE.slices_Delete Try.delU32 u32 (fun _ => rfl) 0 (fun w => Try.zeroValue24 w) i24 hi24 hz24 g 0 cap i (i + 1) vs.toArray w hH (by simp; omega) hm (by omega) (by simp; omega)
  change Calls Try.prog 35 _ _ _ at h
  have e1 : vs.toArray.size = n := by simp [hv]
  rw [e1] at h
  refine Calls.mono h ?_
  rintro e w' ⟨rfl, q, rfl⟩
  have e2 : n - (i + 1 - i) = n - 1 := by omega
  refine ⟨by rw [e2], putRow_block u32 hr 0 _ q, fun j v hj => ?_, putRow_kept u32 w g 0 _ q⟩
  have hp := holds_putRow u32 (Sort.ahead w q) g 0 vs.toArray (vs.toArray.toList.take i ++ vs.toArray.toList.drop (i + 1) ++ List.replicate (i + 1 - i) 0).toArray (holds_ahead u32 w q g 0 _ hH) (by simp; omega)
  subst hy
  have hjl := (List.getElem?_eq_some_iff.1 hj).1
  have := (hp j (by simp at hjl ⊢; omega)).1
  rw [Nat.zero_add] at this
  rw [this, getElem!_pos _ j (by simp at hjl ⊢; omega)]
  congr 2
  have h2 : (vs.take i ++ vs.drop (i + 1) ++ List.replicate (i + 1 - i) 0)[j]? = some v := by
    rw [List.getElem?_append_left hjl]; exact hj
  have h3 := (List.getElem?_eq_some_iff.1 h2).2
  simpa using h3
end Go.Proofs.Qxb6616938a.A
