import Derived.Test.Qxb6616938aV
namespace Go.Proofs.Qxb6616938a.A
open Go.ChangeShapes Go.WideShapes Go.ChangeAt Go.RowKit
set_option linter.unusedVariables false

theorem info44 : (Try.prog.info? 44).map (fun i => (i.zero, i.size, i.bytes)) = some (some (.int .u64 0), 1, 8) := by kernel_rfl

theorem cnt_mono (f : Nat → Nat) {j M : Nat} (h : j ≤ M) : cnt f j ≤ cnt f M := by
  induction M with
  | zero => have : j = 0 := by omega
            subst this; exact Nat.le_refl _
  | succ M ih =>
    by_cases e : j = M + 1
    · subst e; exact Nat.le_refl _
    · have := ih (by omega)
      simp only [cnt]; omega

theorem wrap_u32 {x : Int} (h0 : 0 ≤ x) (h1 : x < 4294967296) : IntKind.u32.wrap x = x := by
  simp [IntKind.wrap, IntKind.bits, IntKind.signed]; omega
theorem wrap_u64 {x : Int} (h0 : 0 ≤ x) (h1 : x < 18446744073709551616) : IntKind.u64.wrap x = x := by
  simp [IntKind.wrap, IntKind.bits, IntKind.signed]; omega

theorem Rd.drew {w : World} {pc g M : Nat} {f : Nat → Nat} (h : Rd w pc g M f) : Rd w.drew pc g M f := ⟨h.c7, h.row, h.pow, h.bnd, h.free⟩

/-- what holds in a round of resize -/
structure Rz (w wr : World) (pc M' : Nat) (xs : List Value) (f D : Nat → Nat) (j : Nat) (f' : Nat → Nat) : Prop where
  blk : Rw wr pc 57 (xs.set 7 (.slice (some ⟨w.heap.size, 0, none⟩) M' M'))
  row : Rw wr w.heap.size 44 (tab (us f') M')
  tbl : Tbl M' (home M') f' (part f j)
  cnt : cnt f' M' = cnt f j
  bnd : ∀ i, i < M' → f' i < 18446744073709551616
  kp : Kept [pc] w wr

theorem Rz.rd {w wr : World} {pc M' : Nat} {xs : List Value} {f D : Nat → Nat} {j : Nat} {f' : Nat → Nat} (h : Rz w wr pc M' xs f D j f') (hx : xs.length = 21) (hp : Pow M') (hn : A.cnt f j < M') : Rd wr pc w.heap.size M' f' :=
  ⟨by rw [cells_of h.blk 7]; simp [hx], h.row, hp, h.bnd, cnt_free (by rw [h.cnt]; exact hn)⟩

theorem Rz.step {w wr : World} {pc M M' : Nat} {xs : List Value} {f D : Nat → Nat} {j : Nat} {f' : Nat → Nat} (h : Rz w wr pc M' xs f D j f') (he : Ent M f D) (hj : j < M) (h0 : f j ≠ 0) (hb : f j < 18446744073709551616) {i : Nat} (hi : i < M') (hv : ∀ q, q < M' → dist M' (home M' (f j / 4294967296)) q < dist M' (home M' (f j / 4294967296)) i → f' q ≠ 0) (hi0 : f' i = 0) :
    Rz w ((wr.setCell ⟨w.heap.size, i, none⟩ (.int .u64 (f j))).drew) pc M' xs f D (j + 1) (put' f' i (f j)) := by
  have hpc : pc < w.heap.size ∨ True := .inr trivial
  have hne : pc ≠ w.heap.size := fun e => by
    have h1 := h.blk; have h2 := h.row
    unfold Rw at h1 h2
    rw [e, h2] at h1
    simp at h1
  have ev : f j / 4294967296 * 4294967296 + f j % 4294967296 = f j := by omega
  have hv0 := (he.val j hj h0).1
  refine ⟨?_, ?_, ?_, ?_, fun q hq => ?_, (h.kp.setNew (Nat.le_refl _) _).drew⟩
  · show (wr.setCell ⟨w.heap.size, i, none⟩ (.int .u64 (f j))).heap[pc]? = _
    rw [Below.heap_setCell _ _ _ _ hne]; exact h.blk
  · show (wr.setCell ⟨w.heap.size, i, none⟩ (.int .u64 (f j))).heap[w.heap.size]? = _
    rw [set_of h.row, ← us_put]; simp
  · have := h.tbl.put (v := f j % 4294967296) (h := 0) (he.part_new hj h0) hi hv hi0 hv0 (by omega)
    rw [ev] at this
    simp only [part, if_neg h0]
    exact this
  · have := cnt_put (f := f') (v := f j) hi
    rw [hi0] at this
    simp only [A.cnt, if_neg h0]
    simp [h0] at this
    rw [this, h.cnt]
  · by_cases e : q = i
    · subst e; rw [put_same]; exact hb
    · rw [put_ne _ _ e]; exact h.bnd q hq

theorem Rz.same {w wr : World} {pc M' : Nat} {xs : List Value} {f D : Nat → Nat} {j : Nat} {f' : Nat → Nat} (h : Rz w wr pc M' xs f D j f') (h0 : f j = 0) : Rz w wr pc M' xs f D (j + 1) f' :=
  ⟨h.blk, h.row, by simp only [part, if_pos h0]; exact h.tbl, by simp only [A.cnt, if_pos h0]; rw [h.cnt]; rfl, h.bnd, h.kp⟩

set_option maxRecDepth 100000 in
set_option maxHeartbeats 1000000 in
theorem resize_any (pc g M M' n : Nat) (xs : List Value) (f D : Nat → Nat) (w : World) (hb : Rw w pc 57 xs) (hx : xs.length = 21) (hs : xs[7]? = some (.slice (some ⟨g, 0, none⟩) M M)) (hr : Rw w g 44 (tab (us f) M)) (he : Ent M f D) (hp : Pow M') (hM : M ≤ 1099511627776)
    (hbd : ∀ i, i < M → f i < 18446744073709551616) (hn : cnt f M = n) (hlt : n < M') :
    Calls Try.prog 45 #[.pointer (some ⟨pc, 7, none⟩), .int .i64 M'] w fun e w' => e = .returned (.tuple #[]) ∧ ∃ f', Rw w' pc 57 (xs.set 7 (.slice (some ⟨w.heap.size, 0, none⟩) M' M')) ∧ Rw w' w.heap.size 44 (tab (us f') M') ∧ Tbl M' (home M') f' D ∧ cnt f' M' = n ∧ (∀ i, i < M' → f' i < 18446744073709551616) ∧ Kept [pc] w w' := by
  have hl := hp.le
  have hmk := run_make_row' (P := Try.prog) 46 44 (.int .u64 0) 8 Try.underlying46 info44 rfl .i64 .i64 M' (by omega) (by omega)
  have hpc : pc < w.heap.size := lt_of_block hb
  have hg : g < w.heap.size := lt_of_block hr
  have c7 : w.cell? ⟨pc, 7, none⟩ = some (.slice (some ⟨g, 0, none⟩) M M) := by rw [cells_of hb 7]; simpa using hs
  have f7 : w.frozen? ⟨pc, 7, none⟩ = false := free_of hb 7
  have hne : g ≠ pc := fun e => by
    unfold Rw at hb hr
    rw [e, hb] at hr
    simp at hr
  have hst : Rz w ((w.setCell ⟨pc, 7, none⟩ (.slice (some ⟨w.heap.size, 0, none⟩) M' M')).alloc (.cells (madeCells #[.int .u64 0] M') 44)) pc M' xs f D 0 (fun _ => 0) := by
    have hz : (w.setCell ⟨pc, 7, none⟩ (.slice (some ⟨w.heap.size, 0, none⟩) M' M')).heap.size = w.heap.size := by simp [World.setCell]
    refine ⟨?_, ?_, Tbl.empty _ _, ?_, fun i hi => by omega, ((Kept.refl _ _).setCell (by simp) _).alloc _⟩
    · unfold Rw
      rw [Below.heap_alloc _ _ _ (by rw [hz]; exact hpc), set_of hb]; simp
    · unfold Rw
      have := heap_alloc_new (w.setCell ⟨pc, 7, none⟩ (.slice (some ⟨w.heap.size, 0, none⟩) M' M')) (.cells (madeCells #[.int .u64 0] M') 44)
      rw [hz] at this
      rw [this, made_list, ← tab_rep]
      rfl
    · rw [cnt_zero]; rfl
  have HST : Hid (Rz w ((w.setCell ⟨pc, 7, none⟩ (.slice (some ⟨w.heap.size, 0, none⟩) M' M')).alloc (.cells (madeCells #[.int .u64 0] M') 44)) pc M' xs f D 0 (fun _ => 0)) := hst
  have HR : Hid (Rw w g 44 (tab (us f) M)) := hr
  have HE : Hid (Ent M f D) := he
  have HP : Hid (Pow M') := hp
  have HBD : Hid (∀ i, i < M → f i < 18446744073709551616) := hbd
  have HN : Hid (cnt f M = n) := hn
  clear hst hr he hp hbd hn hb hs
  go_enter Try.func45, Try.ntmps45
  go_wp2_with fail
  go_loopw [18] (fun t wr => ∃ (j : Nat) (f' : Nat → Nat), j ≤ M ∧ t = .int .i64 j ∧ Rz w wr pc M' xs f D j f') (fun t _ => M - (intOf t).toNat)
  case atStart => exact ⟨0, _, Nat.zero_le _, rfl, HST.out⟩
  case round =>
    obtain ⟨j, f', hj, rfl, hrz⟩ := hrel
    have HZ : Hid (Rz w wr pc M' xs f D j f') := hrz
    clear HST
    by_cases hjM : j < M
    · have hjI : (j : Int) < (M : Int) := by omega
      have e1 : wr.cell? ⟨g, j, none⟩ = some (.int .u64 (f j)) := hrz.kp.cell (HR.out.cell hjM) (by simp; exact hne)
      obtain ⟨s, hs⟩ : ∃ s, s = f j := ⟨_, rfl⟩
      have HSf : Hid (s = f j) := hs
      rw [← hs] at e1
      have hsb : s < 18446744073709551616 := by rw [hs]; exact HBD.out j hjM
      by_cases h0 : s = 0
      · have HNX : Hid (Rz w wr pc M' xs f D (j + 1) f') := hrz.same (by rw [← hs]; exact h0)
        subst h0
        clear hs hrz
        go_wp2_with fail
        go_roundw
        case rel => exact ⟨j + 1, f', by omega, by go_num, HNX.out⟩
        case measure => simp [intOf]; omega
      · have h0' : ((s : Int) != 0) = true := by rw [bne_iff_ne]; omega
        have hcl : cnt f j < M' := by have := cnt_mono f hj; have := HN.out; omega
        have hrd := (hrz.rd hx HP.out hcl)
        have c7' : wr.cell? ⟨pc, 7, none⟩ = some (.slice (some ⟨w.heap.size, 0, none⟩) M' M') := hrd.c7
        have HH : Hid (Calls Try.prog 37 #[.pointer (some ⟨pc, 7, none⟩), .int .u32 (IntKind.u32.wrap ((s : Int) / 4294967296))] wr.drew fun e w' => e = .returned (.int .i64 (home M' (s / 4294967296))) ∧ w' = wr.drew) := by
          rw [wrap_u32 (by omega) (by omega)]
          exact home_any pc M' (s / 4294967296) w.heap.size wr.drew HP.out c7' (by omega)
        have HV : Hid (Calls Try.prog 46 #[.pointer (some ⟨pc, 7, none⟩), .int .i64 (home M' (s / 4294967296))] wr.drew fun e w' => ∃ i : Nat, e = .returned (.int .i64 i) ∧ w' = wr.drew ∧ i < M' ∧ (∀ q, q < M' → dist M' (home M' (s / 4294967296)) q < dist M' (home M' (s / 4294967296)) i → f' q ≠ 0) ∧ f' i = 0) := vacancy_any pc w.heap.size M' _ f' wr.drew hrd.drew (home_lt (by omega) _)
        have hn1 : w.heap.size ≠ pc := by omega
        have HROW : Hid (Rw wr w.heap.size 44 (tab (us f') M')) := hrz.row
        clear hs hrz hrd hcl
        go_wp2_with fail
        go_region_held3 (fun x => x.cell? ⟨pc, 7, none⟩ = some (.slice (some ⟨w.heap.size, 0, none⟩) M' M')) (go_keep) (first | (go_at_call 37; refine HH.out.mono ?_; rintro e wq ⟨rfl, hwq⟩; subst hwq) | (go_at_call 46; refine HV.out.mono ?_; rintro e wq ⟨i, rfl, hwq, hi, hiv, hi0⟩; subst hwq; have hiI : (i : Int) < (M' : Int) := (by omega); have e5 := HROW.out.cell hi; have f5 : wr.frozen? ⟨w.heap.size, i, none⟩ = false := free_of HROW.out i))
        have HNX := HZ.out.step (i := i) HE.out hjM (by rw [← HSf.out]; exact h0) (by rw [← HSf.out]; exact hsb) hi (by rw [← HSf.out]; exact hiv) hi0
        rw [← HSf.out] at HNX
        have HNX' : Hid (Rz w ((wr.setCell ⟨w.heap.size, i, none⟩ (.int .u64 s)).drew) pc M' xs f D (j + 1) (put' f' i s)) := HNX
        clear HNX
        go_wp2_with fail
        go_roundw
        case rel => exact ⟨j + 1, _, by omega, by go_num, HNX'.out⟩
        case measure => simp [intOf]; omega
    · have hjM' : j = M := by omega
      clear hrz
      go_wp2_with fail
      go_end0
      have h := HZ.out
      rw [hjM'] at h
      refine ⟨rfl, f', h.blk, h.row, ?_, by rw [h.cnt, HN.out], h.bnd, h.kp⟩
      have := h.tbl
      rw [HE.out.part_all] at this
      exact this
end Go.Proofs.Qxb6616938a.A
