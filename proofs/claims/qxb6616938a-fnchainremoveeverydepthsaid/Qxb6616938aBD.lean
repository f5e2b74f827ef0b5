import Derived.Test.Qxb6616938aBC
namespace Go.Proofs.Qxb6616938a.A
open Go.ChangeShapes Go.WideShapes Go.ChangeAt Go.RowKit Go.Sort
set_option linter.unusedVariables false

theorem info24 : (Try.prog.info? 24).map (fun i => (i.zero, i.size, i.bytes)) = some (some (.int .u32 0), 1, 4) := by kernel_rfl

theorem copied {w : World} {a : Option Addr} {g off c : Nat} {ds : List Nat} (h : Sl w a g off (ds.map u32)) (ty : TypeId) :
    ∃ w2, (Builtin.copy_ #[28, 28] ty #[.slice (some ⟨w.heap.size, 0, none⟩) ds.length ds.length, .slice a ds.length c]).run Try.prog (w.alloc (.cells (madeCells #[.int .u32 0] ds.length) 24)) = .ok (.int .i64 ds.length) w2 ∧ Rw w2 w.heap.size 24 (ds.map u32) ∧ Kept [] w w2 := by
  have hg := heap_alloc_new w (.cells (madeCells #[.int .u32 0] ds.length) 24)
  by_cases h0 : ds.length = 0
  · obtain rfl : ds = [] := List.eq_nil_of_length_eq_zero h0
    refine ⟨_, run_copy_none (P := Try.prog) _ 28 28 ty 24 _ _ _ _ _ _ Try.underlying28 sz24 (by simp), ?_, (Kept.refl _ _).alloc _⟩
    unfold Rw
    rw [hg, made_list]
    simp
  · obtain rfl := h.at_ (by simp; omega)
    have hlt : g < w.heap.size := by
      have := h.cells 0 (u32 ds[0]) (by simp [List.getElem?_eq_getElem (show 0 < ds.length by omega)])
      exact World.block_lt_of_cell? _ _ this
    have hr := run_copy_row (P := Try.prog) (w.alloc (.cells (madeCells #[.int .u32 0] ds.length) 24)) 28 28 ty 24 w.heap.size 0 ds.length ds.length ⟨g, off, none⟩ ds.length c _ 24 (ds.map u32) Try.underlying28 sz24 hg (by simp)
      (fun j v hj => by rw [add_plain, World.cell?_alloc_past _ _ _ hlt]; exact h.cells j v hj) (by simp [made_list]) (fun v hv => by obtain ⟨x, _, rfl⟩ := List.mem_map.1 hv; rfl)
    rw [List.length_map] at hr
    refine ⟨_, hr, ?_, ?_⟩
    · unfold Rw
      rw [setRow_heap _ _ _ _ 24 (0, 0) hg]
      simp [made_list]
    · have k1 : Kept [] w (w.alloc (.cells (madeCells #[.int .u32 0] ds.length) 24)) := (Kept.refl _ _).alloc _
      have k2 := (Kept.refl [w.heap.size] (w.alloc (.cells (madeCells #[.int .u32 0] ds.length) 24))).setRow (g := w.heap.size) (by simp) ((madeCells #[.int .u32 0] ds.length).toList.take 0 ++ ds.map u32 ++ (madeCells #[.int .u32 0] ds.length).toList.drop (0 + ds.length)).toArray
      refine ⟨k2.os.trans k1.os, k2.tape.trans k1.tape, k2.output.trans k1.output, Nat.le_trans k1.size k2.size, fun k hk hn => ?_⟩
      rw [k2.block k (by have := k1.size; omega) (by simp; omega)]
      exact k1.block k hk hn

set_option maxRecDepth 100000 in
/-- zzCloneU32 -/
theorem clone_any (a : Option Addr) (g off c : Nat) (ds : List Nat) (w : World) (hs : Sl w a g off (ds.map u32)) (hl : ds.length ≤ 1048576) (hnil : a = none → ds = []) :
    Calls Try.prog 17 #[.slice a ds.length c] w fun e w' => Kept [] w w' ∧ ((e = .returned (.slice none 0 0) ∧ ds = []) ∨ (e = .returned (.slice (some ⟨w.heap.size, 0, none⟩) ds.length ds.length) ∧ Rw w' w.heap.size 24 (ds.map u32))) := by
  have hmk := run_make_row' (P := Try.prog) 28 24 (.int .u32 0) 4 Try.underlying28 info24 rfl .i64 .i64 ds.length (by omega) (by omega)
  obtain ⟨w2, hcp, hrw, hkp⟩ := copied (c := c) hs 3
  have HRW : Hid (Rw w2 w.heap.size 24 (ds.map u32)) := hrw
  have HKP : Hid (Kept [] w w2) := hkp
  have he : ∀ (w : World), (binOp .eql 28 (.slice a ds.length c) (.slice none 0 0)).run Try.prog w = .ok (.bool a.isNone) w := fun w => Lib.run_eql_slice_nil w 28 24 a _ _ _ _ Try.underlying28
  obtain ⟨u, hu⟩ : ∃ u, Hid (u = a.isNone) := ⟨_, rfl⟩
  rw [← hu.out] at he
  clear hrw hkp hs
  cases u with
  | true =>
    have hd : ds = [] := hnil (by have := hu.out; cases a with | none => rfl | some _ => cases this)
    have HD : Hid (ds = []) := hd
    clear hd hnil
    go_enter Try.func17, Try.ntmps17
    go_wp2_with fail
    go_ret
    exact ⟨Kept.refl _ _, .inl ⟨rfl, HD.out⟩⟩
  | false =>
    clear hnil
    go_enter Try.func17, Try.ntmps17
    go_wp2_with fail
    go_ret
    exact ⟨HKP.out, .inr ⟨rfl, HRW.out⟩⟩
end Go.Proofs.Qxb6616938a.A
