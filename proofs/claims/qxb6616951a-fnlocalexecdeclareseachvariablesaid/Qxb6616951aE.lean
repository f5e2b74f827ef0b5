import Derived.Test.Qxb6616951aD
namespace Go.Proofs.Qxb6616951a.A
open Go.ChangeShapes Go.WideShapes Go.ChangeAt Go.RowKit
set_option linter.unusedVariables false

theorem info46 : (Try.prog.info? 46).map (fun i => (i.zero, i.size, i.bytes)) = some (some (.pointer none), 1, 8) := by kernel_rfl

/-- the two slices that a statement is made of -/
structure Src (w : World) (a a' : Option Addr) (g off g' off' : Nat) (vs : Vs) : Prop where
  at1 : 0 < vs.length → a = some ⟨g, off, none⟩
  at2 : 0 < vs.length → a' = some ⟨g', off', none⟩
  c1 : ∀ (i : Nat) (v : Nat × Bool), vs[i]? = some v → w.cell? ⟨g, off + i, none⟩ = some (.int .i64 v.1)
  c2 : ∀ (i : Nat) (v : Nat × Bool), vs[i]? = some v → w.cell? ⟨g', off' + i, none⟩ = some (.bool v.2)
  vle : vs.length ≤ 4096

theorem Src.kept {w w' : World} {a a' : Option Addr} {g off g' off' : Nat} {vs : Vs} (h : Src w a a' g off g' off' vs) (k : Kept [] w w') : Src w' a a' g off g' off' vs :=
  ⟨h.at1, h.at2, fun i v hi => k.cell (h.c1 i v hi) (by simp), fun i v hi => k.cell (h.c2 i v hi) (by simp), h.vle⟩

/-- the first k variables are made -/
def VarsTo (w : World) (gv : Nat) (qs : List Value) (vs : Vs) (k : Nat) : Prop :=
  Rw w gv 46 qs ∧ qs.length = vs.length ∧ ∀ (i : Nat) (v : Nat × Bool), i < k → vs[i]? = some v → ∃ b : Nat, qs[i]? = some (.pointer (some ⟨b, 0, none⟩)) ∧ IsVar w b v.1 v.2

theorem VarsTo.step {w : World} {gv k : Nat} {qs : List Value} {vs : Vs} {v : Nat × Bool} (h : VarsTo w gv qs vs k) (hv : vs[k]? = some v) :
    VarsTo ((w.setCell ⟨gv, k, none⟩ (.pointer (some ⟨w.heap.size, 0, none⟩))).alloc (.cells #[.string ⟨#[118]⟩, .int .i64 v.1, .bool v.2] 48)).drew gv (qs.set k (.pointer (some ⟨w.heap.size, 0, none⟩))) vs (k + 1) := by
  obtain ⟨h1, h2, h3⟩ := h
  have hkl : k < vs.length := (List.getElem?_eq_some_iff.1 hv).1
  have hz : (w.setCell ⟨gv, k, none⟩ (.pointer (some ⟨w.heap.size, 0, none⟩))).heap.size = w.heap.size := by simp [World.setCell]
  have hgl : gv < w.heap.size := lt_of_block h1
  have hnew : IsVar ((w.setCell ⟨gv, k, none⟩ (.pointer (some ⟨w.heap.size, 0, none⟩))).alloc (.cells #[.string ⟨#[118]⟩, .int .i64 v.1, .bool v.2] 48)).drew w.heap.size v.1 v.2 := by
    have := heap_alloc_new (w.setCell ⟨gv, k, none⟩ (.pointer (some ⟨w.heap.size, 0, none⟩))) (.cells #[.string ⟨#[118]⟩, .int .i64 v.1, .bool v.2] 48)
    rw [hz] at this
    exact this
  refine ⟨?_, by simp [h2], fun i u hi hu => ?_⟩
  · show ((w.setCell ⟨gv, k, none⟩ (.pointer (some ⟨w.heap.size, 0, none⟩))).alloc (.cells #[.string ⟨#[118]⟩, .int .i64 v.1, .bool v.2] 48)).heap[gv]? = _
    rw [Below.heap_alloc _ _ _ (by rw [hz]; exact hgl), set_of h1]
    simp
  · by_cases e : i = k
    · subst e
      rw [hv] at hu
      injection hu with hu
      subst hu
      exact ⟨w.heap.size, by simp [h2, hkl], hnew⟩
    · obtain ⟨b, hb1, hb2⟩ := h3 i u (by omega) hu
      refine ⟨b, by rw [List.getElem?_set_ne (fun h => e h.symm)]; exact hb1, ?_⟩
      have hbg : b ≠ gv := fun e => by unfold IsVar at hb2; rw [e, h1] at hb2; simp at hb2
      show ((w.setCell ⟨gv, k, none⟩ (.pointer (some ⟨w.heap.size, 0, none⟩))).alloc (.cells #[.string ⟨#[118]⟩, .int .i64 v.1, .bool v.2] 48)).heap[b]? = _
      rw [Below.heap_alloc _ _ _ (by rw [hz]; exact lt_of_block hb2), Below.heap_setCell _ _ _ _ hbg]
      exact hb2

set_option maxRecDepth 100000 in
set_option maxHeartbeats 400000 in
theorem newStmt_any (line cost : Int) (a a' : Option Addr) (g off g' off' cc cc' : Nat) (vs : Vs) (w : World) (hs : Src w a a' g off g' off' vs) :
    Calls Try.prog 11 #[.int .i64 line, .int .i64 cost, .slice a vs.length cc, .slice a' vs.length cc'] w fun e w' => ∃ p gv, e = .returned (.pointer (some ⟨p, 0, none⟩)) ∧ IsStmt w' p gv line cost vs ∧ w.heap.size ≤ p ∧ Kept [] w w' := by
  have hvl := hs.vle
  have HS : Hid (Src w a a' g off g' off' vs) := hs
  have hmk := run_make_row' (P := Try.prog) 45 46 (.pointer none) 8 Try.underlying45 info46 rfl .i64 .i64 vs.length (by omega) (by omega)
  clear hs
  go_enter Try.func11, Try.ntmps11
  go_wp2_with fail
  go_loopw [16] (fun t wr => ∃ (k : Nat) (qs : List Value), k ≤ vs.length ∧ t = .int .i64 k ∧ VarsTo wr w.heap.size qs vs k ∧ Kept [] w wr) (fun t _ => vs.length - (intOf t).toNat)
  case atStart =>
    refine ⟨0, List.replicate vs.length (.pointer none), Nat.zero_le _, rfl, ⟨?_, by simp, fun i v hi => by omega⟩, (Kept.refl _ _).alloc _⟩
    unfold Rw
    rw [← made_list]
    exact heap_alloc_new w _
  case round =>
    obtain ⟨k, qs, hk, rfl, hr, hkp⟩ := hrel
    have HR : Hid (VarsTo wr w.heap.size qs vs k) := hr
    have HK : Hid (Kept [] w wr) := hkp
    by_cases hlt : k < vs.length
    · obtain rfl := HS.out.at1 (by omega)
      obtain rfl := HS.out.at2 (by omega)
      obtain ⟨v, hv⟩ : ∃ v, vs[k]? = some v := ⟨_, List.getElem?_eq_getElem hlt⟩
      have c1 := (HS.out.kept hkp).c1 k v hv
      have c2 := (HS.out.kept hkp).c2 k v hv
      obtain ⟨x0, e1⟩ : ∃ x, wr.cell? ⟨w.heap.size, k, none⟩ = some x := by
        rw [cells_of hr.1 k]
        exact ⟨_, by simp; exact List.getElem?_eq_getElem (by rw [hr.2.1]; exact hlt)⟩
      have f1 : wr.frozen? ⟨w.heap.size, k, none⟩ = false := free_of hr.1 k
      have hkI : (k : Int) < (vs.length : Int) := by omega
      have hgl := World.block_lt_of_cell? _ _ (HS.out.c1 k v hv)
      have hgl' := World.block_lt_of_cell? _ _ (HS.out.c2 k v hv)
      simp at hgl hgl'
      have hwl : w.heap.size < wr.heap.size := lt_of_block hr.1
      have HV : Hid (vs[k]? = some v) := hv
      have n1 : g < wr.heap.size := by omega
      have n2 : g' < wr.heap.size := by omega
      have n3 : w.heap.size ≠ g := by omega
      have n4 : w.heap.size ≠ g' := by omega
      clear hr hkp hv
      go_wp2_with fail
      go_region_held3 (fun x => x.cell? ⟨g, off + k, none⟩ = some (.int .i64 v.1) ∧ x.cell? ⟨g', off' + k, none⟩ = some (.bool v.2)) (go_keep) (fail)
      go_wp2_with fail
      go_roundw
      case rel => exact ⟨k + 1, _, by omega, by go_num, HR.out.step HV.out, ((HK.out.setNew (Nat.le_refl _) _).alloc _).drew⟩
      case measure => simp [intOf]; omega
    · clear hr hkp
      have hkn : k = vs.length := by omega
      go_wp2_with fail
      go_ret
      refine ⟨wr.heap.size, w.heap.size, rfl, ?_, HK.out.size, HK.out.alloc _⟩
      have hb : ∀ b o, wr.heap[b]? = some o → ∀ ob, (wr.alloc ob).heap[b]? = some o := fun b o h ob => by rw [Below.heap_alloc _ _ _ (lt_of_block h)]; exact h
      refine ⟨qs.toArray, heap_alloc_new wr _, hb _ _ HR.out.1 _, fun i v hi => ?_⟩
      obtain ⟨b, h1, h2⟩ := HR.out.2.2 i v (by have := (List.getElem?_eq_some_iff.1 hi).1; omega) hi
      exact ⟨b, by simpa using h1, hb _ _ h2 _⟩

end Go.Proofs.Qxb6616951a.A
