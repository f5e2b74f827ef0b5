import Derived.Test.Qxb6616938aX
import Derived.BigRegion
namespace Go.Proofs.Qxb6616938a.A
open Go.ChangeShapes Go.WideShapes Go.ChangeAt Go.RowKit
set_option linter.unusedVariables false

theorem dist_mod {M a b : Nat} (ha : a < M) (hb : b < M) : ((b : Int) - (a : Int)) % M = (dist M a b : Nat) := by
  unfold dist
  split
  · rw [Int.emod_eq_of_lt (by omega) (by omega)]; omega
  · rw [← Int.add_emod_right, Int.emod_eq_of_lt (by omega) (by omega)]; omega

/-- what holds in a round of takeOut -/
structure To (w wr : World) (pc g M : Nat) (xs : List Value) (D : Nat → Nat) (n z i j : Nat) (f : Nat → Nat) : Prop where
  blk : Rw wr pc 57 xs
  row : Rw wr g 44 (tab (us f) M)
  hole : Hole M (home M) f D i j z
  cnt : cnt f M + 1 = n
  bnd : ∀ i, i < M → f i < 18446744073709551616
  kp : Kept [pc, g] w wr

theorem To.shift {w wr : World} {pc g M : Nat} {xs : List Value} {D : Nat → Nat} {n z i j : Nat} {f : Nat → Nat} (h : To w wr pc g M xs D n z i j f) (hM : 0 < M) (hne : pc ≠ g) (h0 : f j ≠ 0) (hge : ¬ dist M (home M (f j / 4294967296)) j < dist M i j) :
    To w (((wr.setCell ⟨g, i, none⟩ (.int .u64 (f j))).setCell ⟨g, j, none⟩ (.int .u64 0)).drew) pc g M xs D n z j (nx M j) (put' (put' f i (f j)) j 0) := by
  have hij : j ≠ i := fun e => h0 (by rw [e]; exact h.hole.f_i)
  have hs := h.hole.shift (fun k => home_lt hM k) h0 hge
  refine ⟨?_, ?_, hs.1, ?_, fun q hq => ?_, ((h.kp.setCell (by simp) _).setCell (by simp) _).drew⟩
  · show ((wr.setCell ⟨g, i, none⟩ (.int .u64 (f j))).setCell ⟨g, j, none⟩ (.int .u64 0)).heap[pc]? = _
    rw [Below.heap_setCell _ _ _ _ hne, Below.heap_setCell _ _ _ _ hne]; exact h.blk
  · have h1 : Rw (wr.setCell ⟨g, i, none⟩ (.int .u64 (f j))) g 44 (tab (us (put' f i (f j))) M) := by
      unfold Rw; rw [set_of h.row, ← us_put]; simp
    show ((wr.setCell ⟨g, i, none⟩ (.int .u64 (f j))).setCell ⟨g, j, none⟩ (.int .u64 0)).heap[g]? = _
    rw [set_of h1, ← us_put _ _ j 0]; simp
  · have h1 := cnt_put (f := f) (v := f j) h.hole.i_lt
    have h2 := cnt_put (f := put' f i (f j)) (v := 0) h.hole.j_lt
    rw [h.hole.f_i, if_neg h0] at h1
    rw [put_ne _ _ hij, if_neg h0] at h2
    have := h.cnt
    simp at h1 h2
    omega
  · unfold put'
    have := h.bnd j h.hole.j_lt
    have := h.bnd q hq
    split
    · omega
    · split <;> omega

/-- the scan is at its end, and the number of slots is turned -/
theorem To.fin {w wr : World} {pc g M : Nat} {xs : List Value} {D : Nat → Nat} {n z i j : Nat} {f : Nat → Nat} (h : To w wr pc g M xs D n z i j f) (hM : 0 < M) (hne : pc ≠ g) (h0 : f j = 0) (m q : Nat) :
    Tbl M (home M) f D ∧ Rw ((wr.setCell ⟨pc, 8, none⟩ (.int .i64 m)).drewN q) pc 57 (xs.set 8 (.int .i64 m)) ∧ Rw ((wr.setCell ⟨pc, 8, none⟩ (.int .i64 m)).drewN q) g 44 (tab (us f) M) ∧ Kept [pc, g] w ((wr.setCell ⟨pc, 8, none⟩ (.int .i64 m)).drewN q) := by
  refine ⟨h.hole.done (fun k => home_lt hM k) h0, ?_, ?_, (h.kp.setCell (by simp) _).drewN _⟩
  · show (wr.setCell ⟨pc, 8, none⟩ (.int .i64 m)).heap[pc]? = _
    rw [set_of h.blk]; simp
  · show (wr.setCell ⟨pc, 8, none⟩ (.int .i64 m)).heap[g]? = _
    rw [Below.heap_setCell _ _ _ _ (fun e => hne e.symm)]; exact h.row

theorem To.skip {w wr : World} {pc g M : Nat} {xs : List Value} {D : Nat → Nat} {n z i j : Nat} {f : Nat → Nat} (h : To w wr pc g M xs D n z i j f) (hM : 0 < M) (h0 : f j ≠ 0) (hlt : dist M (home M (f j / 4294967296)) j < dist M i j) : To w wr pc g M xs D n z i (nx M j) f :=
  ⟨h.blk, h.row, (h.hole.skip (fun k => home_lt hM k) h0 hlt).1, h.cnt, h.bnd, h.kp⟩

set_option maxRecDepth 100000 in
set_option maxHeartbeats 1000000 in
theorem takeOut_any (pc g M n k i0 : Nat) (xs : List Value) (f D : Nat → Nat) (w : World) (ht : TabAt w pc xs g M f n) (hT : Tbl M (home M) f D) (hi : i0 < M) (h0 : f i0 ≠ 0) (hk : f i0 / 4294967296 = k) :
    Calls Try.prog 39 #[.pointer (some ⟨pc, 7, none⟩), .int .i64 i0] w fun e w' => e = .returned (.tuple #[]) ∧ ∃ xs' g' M' f', TabAt w' pc xs' g' M' f' (n - 1) ∧ Tbl M' (home M') f' (put' D k 0) ∧ (∀ i, i ≠ 7 → i ≠ 8 → xs'[i]? = xs[i]?) ∧ (g' = g ∨ w.heap.size ≤ g') ∧ Kept [pc, g] w w' := by
  have hl := ht.pow.le
  have c7 := ht.c7
  have hne := ht.ne
  have hne2 : g ≠ pc := fun e => hne e.symm
  obtain ⟨z, hz, hz0⟩ := ht.rd.free
  have e0 : w.cell? ⟨g, i0, none⟩ = some (.int .u64 (f i0)) := ht.slot hi
  have f0 : w.frozen? ⟨g, i0, none⟩ = false := free_of ht.row i0
  have hiI : (i0 : Int) < (M : Int) := by omega
  have hn1 : 1 ≤ n := by rw [← ht.cnt]; exact cnt_pos hi h0
  have hst : To w (w.setCell ⟨g, i0, none⟩ (.int .u64 0)) pc g M xs (put' D k 0) n z i0 (nx M i0) (put' f i0 0) := by
    refine ⟨?_, ?_, Hole.start hT hi h0 hk hz hz0, ?_, fun q hq => ?_, (Kept.refl _ _).setCell (by simp) _⟩
    · unfold Rw; rw [Below.heap_setCell _ _ _ _ hne]; exact ht.blk
    · unfold Rw; rw [set_of ht.row, ← us_put]; simp
    · have h1 := cnt_put (f := f) (v := 0) hi
      rw [if_neg h0] at h1
      simp at h1
      rw [h1, ht.cnt]
    · have := ht.bnd q hq
      unfold put'; split <;> omega
  have HST : Hid (To w (w.setCell ⟨g, i0, none⟩ (.int .u64 0)) pc g M xs (put' D k 0) n z i0 (nx M i0) (put' f i0 0)) := hst
  have HT : Hid (TabAt w pc xs g M f n) := ht
  have HP : Hid (Pow M) := ht.pow
  have HN0 : Hid (Calls Try.prog 43 #[.pointer (some ⟨pc, 7, none⟩), .int .i64 i0] (w.setCell ⟨g, i0, none⟩ (.int .u64 0)) fun e w' => e = .returned (.int .i64 (nx M i0)) ∧ w' = w.setCell ⟨g, i0, none⟩ (.int .u64 0)) := next_any pc M i0 g _ ht.pow (by rw [cells_of hst.blk 7]; simpa using ht.sl) hi
  have hmM : (M : Int) ≤ 1099511627776 := by omega
  clear hst ht hT h0 hk hz0
  go_enter Try.func39, Try.ntmps39
  go_wp2_with fail
  refine HN0.out.mono ?_
  rintro e w1 ⟨rfl, hw1⟩
  subst hw1
  go_wp2_with fail
  go_loopw [1, 4] (fun a b wr => ∃ (i j : Nat) (f' : Nat → Nat), a = .int .i64 i ∧ b = .int .i64 j ∧ To w wr pc g M xs (put' D k 0) n z i j f') (fun _ b _ => dist M (intOf b).toNat z)
  case atStart => exact ⟨i0, nx M i0, _, rfl, rfl, HST.out⟩
  case round =>
    obtain ⟨i, j, f', rfl, rfl, hto⟩ := hrel
    clear HN0 HST e0 f0 hiI
    have HTO : Hid (To w wr pc g M xs (put' D k 0) n z i j f') := hto
    have hi' := hto.hole.i_lt
    have hj' := hto.hole.j_lt
    have c7' : wr.cell? ⟨pc, 7, none⟩ = some (.slice (some ⟨g, 0, none⟩) M M) := by rw [cells_of hto.blk 7]; simpa using HT.out.sl
    have e1 : wr.cell? ⟨g, j, none⟩ = some (.int .u64 (f' j)) := hto.row.cell hj'
    have e2 : wr.cell? ⟨g, i, none⟩ = some (.int .u64 (f' i)) := hto.row.cell hi'
    have f1 : wr.frozen? ⟨g, j, none⟩ = false := free_of hto.row j
    have f2 : wr.frozen? ⟨g, i, none⟩ = false := free_of hto.row i
    have hiI : (i : Int) < (M : Int) := by omega
    have hjI : (j : Int) < (M : Int) := by omega
    obtain ⟨s, hs⟩ : ∃ s, s = f' j := ⟨_, rfl⟩
    have HSf : Hid (s = f' j) := hs
    rw [← hs] at e1
    have hsb : s < 18446744073709551616 := by rw [hs]; exact hto.bnd j hj'
    clear hs
    by_cases h0 : s = 0
    · subst h0
      have c8 : wr.cell? ⟨pc, 8, none⟩ = some (.int .i64 n) := by rw [cells_of hto.blk 8]; simpa using HT.out.nn
      have f8 : wr.frozen? ⟨pc, 8, none⟩ = false := free_of hto.blk 8
      clear hto
      have hnI : (1 : Int) ≤ (n : Int) := by omega
      have hnM : (n : Int) ≤ 1099511627776 := by have := HT.out.full; omega
      have hfin := HTO.out.fin (by omega) hne HSf.out.symm (n - 1)
      rw [show ((n - 1 : Nat) : Int) = (n : Int) - 1 from by omega] at hfin
      have HFIN : Hid (∀ q, Tbl M (home M) f' (put' D k 0) ∧ Rw ((wr.setCell ⟨pc, 8, none⟩ (.int .i64 ((n : Int) - 1))).drewN q) pc 57 (xs.set 8 (.int .i64 ((n : Int) - 1))) ∧ Rw ((wr.setCell ⟨pc, 8, none⟩ (.int .i64 ((n : Int) - 1))).drewN q) g 44 (tab (us f') M) ∧ Kept [pc, g] w ((wr.setCell ⟨pc, 8, none⟩ (.int .i64 ((n : Int) - 1))).drewN q)) := hfin
      have HCN : Hid (cnt f' M = n - 1) := by have := HTO.out.cnt; show _ = _; omega
      clear hfin
      by_cases hsh : 16 < (M : Int) ∧ 8 * ((n : Int) - 1) < (M : Int)
      · obtain ⟨s1, s2⟩ := hsh
        go_wp2_with fail
        go_quiet (fail)
        go_wp2_with fail
        obtain ⟨l0, l1, l2, l3⟩ := HFIN.out nq
        have hrz := resize_any pc g M (M / 2) (n - 1) (xs.set 8 (.int .i64 ((n : Int) - 1))) f' (put' D k 0) _ l1 (by simp [HT.out.len]) (by rw [List.getElem?_set_ne (by decide)]; exact HT.out.sl) l2 l0.toEnt (HP.out.half (by omega)) (by omega) HTO.out.bnd HCN.out (by omega)
        rw [show ((M / 2 : Nat) : Int) = (M : Int) / 2 from by omega] at hrz
        refine hrz.mono ?_
        rintro e w' ⟨rfl, f2', r1, r2, r3, r4, r5, r6⟩
        have HF : Hid (∃ xs' g' M' f', TabAt w' pc xs' g' M' f' (n - 1) ∧ Tbl M' (home M') f' (put' D k 0) ∧ (∀ i, i ≠ 7 → i ≠ 8 → xs'[i]? = xs[i]?) ∧ (g' = g ∨ w.heap.size ≤ g') ∧ Kept [pc, g] w w') := by
          refine ⟨_, _, _, f2', ⟨r1, by simp [HT.out.len], by simp [HT.out.len], ?_, r2, HP.out.half (by omega), r5, r4, by omega⟩, r3, fun j h7 h8 => ?_, .inr l3.size, l3.trans (r6.mono (by simp))⟩
          · rw [List.getElem?_set_ne (by decide), show ((n - 1 : Nat) : Int) = (n : Int) - 1 from by omega]; simp [HT.out.len]
          · rw [List.getElem?_set_ne (fun e => h7 e.symm), List.getElem?_set_ne (fun e => h8 e.symm)]
        clear l0 l1 l2 l3 hrz r1 r2 r3 r4 r5 r6
        go_wp2_with fail
        go_end0
        exact ⟨rfl, HF.out⟩
      · have HF : Hid (∀ q, ∃ xs' g' M' f'', TabAt ((wr.setCell ⟨pc, 8, none⟩ (.int .i64 ((n : Int) - 1))).drewN q) pc xs' g' M' f'' (n - 1) ∧ Tbl M' (home M') f'' (put' D k 0) ∧ (∀ i, i ≠ 7 → i ≠ 8 → xs'[i]? = xs[i]?) ∧ (g' = g ∨ w.heap.size ≤ g') ∧ Kept [pc, g] w ((wr.setCell ⟨pc, 8, none⟩ (.int .i64 ((n : Int) - 1))).drewN q)) := fun q => by
          obtain ⟨l0, l1, l2, l3⟩ := HFIN.out q
          refine ⟨_, g, M, f', ⟨l1, by simp [HT.out.len], by rw [List.getElem?_set_ne (by decide)]; exact HT.out.sl, ?_, l2, HP.out, HTO.out.bnd, HCN.out, by have := HT.out.full; omega⟩, l0, fun j h7 h8 => ?_, .inl rfl, l3⟩
          · rw [show ((n - 1 : Nat) : Int) = (n : Int) - 1 from by omega]; simp [HT.out.len]
          · rw [List.getElem?_set_ne (fun e => h8 e.symm)]
        by_cases s1 : 16 < (M : Int)
        · have s2 : ¬ 8 * ((n : Int) - 1) < (M : Int) := fun h => hsh ⟨s1, h⟩
          clear hsh
          go_wp2_with fail
          go_quiet (fail)
          go_wp2_with fail
          go_end0
          exact ⟨rfl, HF.out _⟩
        · have s1' : decide (16 < (M : Int)) = false := by simpa using s1
          clear hsh s1
          go_wp2_with fail
          go_quiet (fail)
          go_wp2_with fail
          go_end0
          exact ⟨rfl, HF.out _⟩
    · have h0' : ((s : Int) != 0) = true := by rw [bne_iff_ne]; omega
      have HN : Hid (∀ q : World, q.cell? ⟨pc, 7, none⟩ = some (.slice (some ⟨g, 0, none⟩) M M) → Calls Try.prog 43 #[.pointer (some ⟨pc, 7, none⟩), .int .i64 j] q fun e w' => e = .returned (.int .i64 (nx M j)) ∧ w' = q) := fun q hq => next_any pc M j g q HP.out hq hj'
      have HH : Hid (Calls Try.prog 37 #[.pointer (some ⟨pc, 7, none⟩), .int .u32 ((s : Int) / 4294967296)] wr fun e w' => e = .returned (.int .i64 (home M (s / 4294967296))) ∧ w' = wr) := home_any pc M (s / 4294967296) g wr HP.out c7' (by omega)
      have hh := home_lt (M := M) (by omega) (s / 4294967296)
      obtain ⟨h, hhe⟩ : ∃ h, Hid (h = home M (s / 4294967296)) := ⟨_, rfl⟩
      rw [← hhe.out] at HH hh
      have hA : bits .and .i64 ((j : Int) - (h : Int)) ((M : Int) - 1) = (dist M h j : Nat) := by rw [HP.out.mask', dist_mod hh hj']
      have hB : bits .and .i64 ((j : Int) - (i : Int)) ((M : Int) - 1) = (dist M i j : Nat) := by rw [HP.out.mask', dist_mod hi' hj']
      have hms : dist M (nx M j) z < dist M j z := by
        have hjz : j ≠ z := fun e => h0 (by rw [HSf.out, e]; exact hto.hole.f_z)
        exact dist_down hj' hto.hole.z_lt hjz
      clear hto
      by_cases hd : ((dist M h j : Nat) : Int) < ((dist M i j : Nat) : Int)
      · have HNX : Hid (To w wr pc g M xs (put' D k 0) n z i (nx M j) f') := HTO.out.skip (by omega) (by rw [← HSf.out]; exact h0) (by rw [← HSf.out, ← hhe.out]; omega)
        go_wp2_with fail
        refine HH.out.mono ?_
        rintro e w1 ⟨rfl, hw1⟩
        subst hw1
        go_wp2_with fail
        refine (HN.out _ c7').mono ?_
        rintro e w2 ⟨rfl, hw2⟩
        subst hw2
        go_wp2_with fail
        go_roundw
        case rel => exact ⟨i, nx M j, f', rfl, rfl, HNX.out⟩
        case measure => simpa [intOf] using hms
      · have hnx := HTO.out.shift (by omega) hne (by rw [← HSf.out]; exact h0) (by rw [← HSf.out, ← hhe.out]; omega)
        rw [← HSf.out] at hnx
        have HNX : Hid (To w (((wr.setCell ⟨g, i, none⟩ (.int .u64 s)).setCell ⟨g, j, none⟩ (.int .u64 0)).drew) pc g M xs (put' D k 0) n z j (nx M j) (put' (put' f' i s) j 0)) := hnx
        clear hnx
        have hijn : i ≠ j := fun e => h0 (by rw [HSf.out, ← e]; exact HTO.out.hole.f_i)
        go_wp2_with fail
        refine HH.out.mono ?_
        rintro e w1 ⟨rfl, hw1⟩
        subst hw1
        go_wp2_with fail
        go_region
        go_wp2_with fail
        refine (HN.out _ (by rw [cells_of HNX.out.blk 7]; simpa using HT.out.sl)).mono ?_
        rintro e w2 ⟨rfl, hw2⟩
        subst hw2
        go_wp2_with fail
        go_roundw
        case rel => exact ⟨j, nx M j, _, rfl, rfl, HNX.out⟩
        case measure => simpa [intOf] using hms
end Go.Proofs.Qxb6616938a.A
