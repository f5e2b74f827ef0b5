import Derived.Test.Qxb6616938aZ
namespace Go.Proofs.Qxb6616938a.A
open Go.ChangeShapes Go.WideShapes Go.ChangeAt Go.RowKit
set_option linter.unusedVariables false

theorem Rw.set {w : World} {p t : Nat} {xs : List Value} (h : Rw w p t xs) (i : Nat) (u : Value) : Rw (w.setCell ⟨p, i, none⟩ u) p t (xs.set i u) := by
  unfold Rw; rw [set_of h]; simp
theorem Rw.other {w : World} {p t q : Nat} {xs : List Value} (h : Rw w p t xs) (hn : p ≠ q) (i : Nat) (u : Value) : Rw (w.setCell ⟨q, i, none⟩ u) p t xs := by
  unfold Rw; rw [Below.heap_setCell _ _ _ _ hn]; exact h
theorem TabAt.set {w : World} {pc : Nat} {xs : List Value} {g M : Nat} {f : Nat → Nat} {n : Nat} (h : TabAt w pc xs g M f n) (i : Nat) (u : Value) (h7 : i ≠ 7) (h8 : i ≠ 8) : TabAt (w.setCell ⟨pc, i, none⟩ u) pc (xs.set i u) g M f n :=
  ⟨h.blk.set i u, by simp [h.len], by rw [List.getElem?_set_ne h7]; exact h.sl, by rw [List.getElem?_set_ne h8]; exact h.nn, h.row.other (fun e => h.ne e.symm) i u, h.pow, h.bnd, h.cnt, h.full⟩

/-- what holds in a round of toBig -/
def Tb (w wr : World) (pc B : Nat) (xs : List Value) (f : Nat → Nat) (j : Nat) : Prop :=
  ∃ xs' g M f', TabAt wr pc xs' g M f' j ∧ Tbl M (home M) f' (part f j) ∧ (∀ i, i ≠ 7 → i ≠ 8 → xs'[i]? = xs[i]?) ∧ w.heap.size ≤ g ∧ Kt B pc w wr

theorem Tb.start {w : World} {pc B : Nat} {xs : List Value} {f : Nat → Nat} (hb : Rw w pc 57 xs) (hx : xs.length = 21) (q : Nat) :
    Tb w ((((w.setCell ⟨pc, 7, none⟩ (.slice (some ⟨w.heap.size, 0, none⟩) 16 16)).setCell ⟨pc, 8, none⟩ (.int .i64 0)).alloc (.cells (madeCells #[.int .u64 0] 16) 44)).drewN q) pc B xs f 0 := by
  have hpc : pc < w.heap.size := lt_of_block hb
  have hz : ((w.setCell ⟨pc, 7, none⟩ (.slice (some ⟨w.heap.size, 0, none⟩) 16 16)).setCell ⟨pc, 8, none⟩ (.int .i64 0)).heap.size = w.heap.size := by simp [World.setCell]
  have h1 := set_of hb 7 (.slice (some ⟨w.heap.size, 0, none⟩) 16 16)
  have h2 := set_of h1 8 (.int .i64 0)
  refine ⟨(xs.set 7 (.slice (some ⟨w.heap.size, 0, none⟩) 16 16)).set 8 (.int .i64 0), w.heap.size, 16, fun _ => 0, ⟨?_, by simp [hx], ?_, by simp [hx], ?_, Pow.sixteen, fun _ _ => by omega, cnt_zero 16, by omega⟩, Tbl.empty _ _, fun i h7 h8 => ?_, Nat.le_refl _, ((((Kt.refl _ _ _).setCell _ _).setCell _ _).alloc _).drewN _⟩
  · show (((w.setCell ⟨pc, 7, none⟩ (.slice (some ⟨w.heap.size, 0, none⟩) 16 16)).setCell ⟨pc, 8, none⟩ (.int .i64 0)).alloc (.cells (madeCells #[.int .u64 0] 16) 44)).heap[pc]? = _
    rw [Below.heap_alloc _ _ _ (by rw [hz]; exact hpc), h2]; simp
  · rw [List.getElem?_set_ne (by decide)]; simp [hx]
  · show (((w.setCell ⟨pc, 7, none⟩ (.slice (some ⟨w.heap.size, 0, none⟩) 16 16)).setCell ⟨pc, 8, none⟩ (.int .i64 0)).alloc (.cells (madeCells #[.int .u64 0] 16) 44)).heap[w.heap.size]? = _
    have := heap_alloc_new ((w.setCell ⟨pc, 7, none⟩ (.slice (some ⟨w.heap.size, 0, none⟩) 16 16)).setCell ⟨pc, 8, none⟩ (.int .i64 0)) (.cells (madeCells #[.int .u64 0] 16) 44)
    rw [hz] at this
    rw [this, made_list, ← tab_rep]
    rfl
  · rw [List.getElem?_set_ne (fun e => h8 e.symm), List.getElem?_set_ne (fun e => h7 e.symm)]

set_option maxRecDepth 100000 in
set_option maxHeartbeats 1000000 in
theorem toBig_any (pc B n : Nat) (xs : List Value) (f D : Nat → Nat) (w : World) (hb : Rw w pc 57 xs) (hx : xs.length = 21) (hB : B ≤ w.heap.size) (hn : n ≤ 6) (h6 : xs[6]? = some (.int .i64 n)) (hs : ∀ j, j < 6 → xs[j]? = some (.int .u64 (f j))) (hE : Ent n f D) (hne : ∀ j, j < n → f j ≠ 0) (hbd : ∀ j, j < 6 → f j < 18446744073709551616) :
    Calls Try.prog 44 #[.pointer (some ⟨pc, 0, none⟩)] w fun e w' => e = .returned (.tuple #[]) ∧ ∃ xs' g M f', TabAt w' pc xs' g M f' n ∧ Tbl M (home M) f' D ∧ xs'[6]? = some (.int .i64 0) ∧ (∀ j, j < 6 → xs'[j]? = some (.int .u64 0)) ∧ (∀ i, 9 ≤ i → xs'[i]? = xs[i]?) ∧ B ≤ g ∧ Kt B pc w w' := by
  have hmk : ∀ w, (Instr.makeSlice 46 (.int .i64 16) (.int .i64 16)).run Try.prog w = .ok (.slice (some ⟨w.heap.size, 0, none⟩) 16 16) (w.alloc (.cells (madeCells #[.int .u64 0] 16) 44)) := fun w => run_make_row' (P := Try.prog) 46 44 (.int .u64 0) 8 Try.underlying46 info44 rfl .i64 .i64 16 (by omega) (by omega) w
  obtain ⟨v7, h7⟩ : ∃ v, xs[7]? = some v := ⟨_, List.getElem?_eq_getElem (by omega)⟩
  obtain ⟨v8, h8⟩ : ∃ v, xs[8]? = some v := ⟨_, List.getElem?_eq_getElem (by omega)⟩
  have c6 : w.cell? ⟨pc, 6, none⟩ = some (.int .i64 n) := by rw [cells_of hb 6]; simpa using h6
  have c7 : w.cell? ⟨pc, 7, none⟩ = some v7 := by rw [cells_of hb 7]; simpa using h7
  have c8 : w.cell? ⟨pc, 8, none⟩ = some v8 := by rw [cells_of hb 8]; simpa using h8
  have f7 : w.frozen? ⟨pc, 7, none⟩ = false := free_of hb 7
  have f8 : w.frozen? ⟨pc, 8, none⟩ = false := free_of hb 8
  have hnI : (n : Int) ≤ 6 := by omega
  have hpc : pc < w.heap.size := lt_of_block hb
  have HS : Hid (∀ j, j < 6 → xs[j]? = some (.int .u64 (f j))) := hs
  have HST : Hid (∀ q, Tb w ((((w.setCell ⟨pc, 7, none⟩ (.slice (some ⟨w.heap.size, 0, none⟩) 16 16)).setCell ⟨pc, 8, none⟩ (.int .i64 0)).alloc (.cells (madeCells #[.int .u64 0] 16) 44)).drewN q) pc B xs f 0) := fun q => Tb.start hb hx q
  have HE : Hid (Ent n f D) := hE
  have HNE : Hid (∀ j, j < n → f j ≠ 0) := hne
  have HBD : Hid (∀ j, j < 6 → f j < 18446744073709551616) := hbd
  have H6 : Hid (xs[6]? = some (.int .i64 n)) := h6
  clear hs hE hne hbd hb h6 h7 h8
  go_enter Try.func44, Try.ntmps44
  go_wp2_with fail
  go_quiet (fail)
  go_wp2_with fail
  go_loopw [18] (fun t wr => ∃ j : Nat, j ≤ n ∧ t = .int .i64 j ∧ Tb w wr pc B xs f j) (fun t _ => n - (intOf t).toNat)
  case atStart => exact ⟨0, Nat.zero_le _, rfl, HST.out _⟩
  case round =>
    obtain ⟨j, hj, rfl, xs', g, M, f', ht, hT, hag, hg, hkt⟩ := hrel
    have HT : Hid (TabAt wr pc xs' g M f' j) := ht
    have HTb : Hid (Tbl M (home M) f' (part f j)) := hT
    have HAG : Hid (∀ i, i ≠ 7 → i ≠ 8 → xs'[i]? = xs[i]?) := hag
    have HKT : Hid (Kt B pc w wr) := hkt
    clear HST c6 c7 c8 f7 f8 hmk
    by_cases hjn : j < n
    · have e1 : wr.cell? ⟨pc, j, none⟩ = some (.int .u64 (f j)) := by
        rw [cells_of ht.blk j]
        simp only [List.getElem?_toArray]
        rw [hag j (by omega) (by omega)]; exact HS.out j (by omega)
      have hjI : (j : Int) < (n : Int) := by omega
      have hb1 := HBD.out j (by omega)
      have h0 := HNE.out j hjn
      have hE1 := HE.out.val j hjn h0
      have hput := put_any pc g M j (f j / 4294967296) (f j % 4294967296) xs' f' (part f j) wr ht hT (HE.out.part_new hjn h0) (by omega) hE1.1 (by omega) (by omega)
      obtain ⟨s, hs⟩ : ∃ s, s = f j := ⟨_, rfl⟩
      have HSf : Hid (s = f j) := hs
      rw [← hs] at e1 hb1 h0 hput
      have HPUT : Hid (Calls Try.prog 41 #[.pointer (some ⟨pc, 7, none⟩), .int .u32 ((s : Int) / 4294967296), .int .u32 ((s : Int) % 4294967296)] wr fun e w' => e = .returned (.tuple #[]) ∧ ∃ xs'' g' M' f'', TabAt w' pc xs'' g' M' f'' (j + 1) ∧ Tbl M' (home M') f'' (put' (part f j) (s / 4294967296) (s % 4294967296)) ∧ (∀ i, i ≠ 7 → i ≠ 8 → xs''[i]? = xs'[i]?) ∧ (g' = g ∨ wr.heap.size ≤ g') ∧ Kept [pc, g] wr w') := hput
      clear hput hs ht hT hag hkt hE1
      go_wp2_with fail
      refine HPUT.out.mono ?_
      rintro e w1 ⟨rfl, xs2, g2, M2, f2, p1, p2, p3, p4, p5⟩
      have HNX : Hid (Tb w w1 pc B xs f (j + 1)) := by
        refine ⟨xs2, g2, M2, f2, p1, ?_, fun i h7 h8 => by rw [p3 i h7 h8, HAG.out i h7 h8], ?_, HKT.out.trans (Kt.of p5 HT.out.row (by omega))⟩
        · simp only [part, ← HSf.out, if_neg h0]; exact p2
        · have := HKT.out.size
          rcases p4 with e | e <;> omega
      clear p1 p2 p3 p4 p5 HPUT
      go_wp2_with fail
      go_roundw
      case rel => exact ⟨j + 1, by omega, by go_num, HNX.out⟩
      case measure => simp [intOf]; omega
    · obtain rfl : j = n := by omega
      have hcell : ∀ i, i < 6 → wr.cell? ⟨pc, i, none⟩ = some (.int .u64 (f i)) := fun i hi => by
        rw [cells_of ht.blk i]
        simp only [List.getElem?_toArray]
        rw [hag i (by omega) (by omega)]; exact HS.out i hi
      have b0 := hcell 0 (by omega)
      have b1 := hcell 1 (by omega)
      have b2 := hcell 2 (by omega)
      have b3 := hcell 3 (by omega)
      have b4 := hcell 4 (by omega)
      have b5 := hcell 5 (by omega)
      have b6 : wr.cell? ⟨pc, 6, none⟩ = some (.int .i64 j) := by
        rw [cells_of ht.blk 6]
        simp only [List.getElem?_toArray]
        rw [hag 6 (by omega) (by omega)]; exact H6.out
      have a0 : wr.frozen? ⟨pc, 0, none⟩ = false := free_of ht.blk 0
      have a1 : wr.frozen? ⟨pc, 1, none⟩ = false := free_of ht.blk 1
      have a2 : wr.frozen? ⟨pc, 2, none⟩ = false := free_of ht.blk 2
      have a3 : wr.frozen? ⟨pc, 3, none⟩ = false := free_of ht.blk 3
      have a4 : wr.frozen? ⟨pc, 4, none⟩ = false := free_of ht.blk 4
      have a5 : wr.frozen? ⟨pc, 5, none⟩ = false := free_of ht.blk 5
      have a6 : wr.frozen? ⟨pc, 6, none⟩ = false := free_of ht.blk 6
      clear ht hT hag hkt hcell
      go_wp2_with fail
      go_end0
      have hxl := HT.out.len
      refine ⟨rfl, _, g, M, f', ((((((HT.out.set 0 _ (by decide) (by decide)).set 1 _ (by decide) (by decide)).set 2 _ (by decide) (by decide)).set 3 _ (by decide) (by decide)).set 4 _ (by decide) (by decide)).set 5 _ (by decide) (by decide)).set 6 _ (by decide) (by decide), ?_, ?_, fun i hi => ?_, fun i hi => ?_, by omega, ((((((HKT.out.setCell _ _).setCell _ _).setCell _ _).setCell _ _).setCell _ _).setCell _ _).setCell _ _⟩
      · have := HTb.out
        rw [HE.out.part_all] at this
        exact this
      · simp [hxl]
      · obtain rfl | rfl | rfl | rfl | rfl | rfl : i = 0 ∨ i = 1 ∨ i = 2 ∨ i = 3 ∨ i = 4 ∨ i = 5 := by omega
        all_goals simp [hxl]
      · rw [List.getElem?_set_ne (by omega), List.getElem?_set_ne (by omega), List.getElem?_set_ne (by omega), List.getElem?_set_ne (by omega), List.getElem?_set_ne (by omega), List.getElem?_set_ne (by omega), List.getElem?_set_ne (by omega)]
        exact HAG.out i (by omega) (by omega)
end Go.Proofs.Qxb6616938a.A
