import Derived.Test.Qxb6616938aW
namespace Go.Proofs.Qxb6616938a.A
open Go.ChangeShapes Go.WideShapes Go.ChangeAt Go.RowKit
set_option linter.unusedVariables false

theorem TabAt.rd {w : World} {pc : Nat} {xs : List Value} {g M : Nat} {f : Nat → Nat} {n : Nat} (h : TabAt w pc xs g M f n) : Rd w pc g M f :=
  ⟨h.c7, h.row, h.pow, h.bnd, cnt_free (by rw [h.cnt]; have := h.full; have := h.pow.le; omega)⟩
theorem TabAt.ne {w : World} {pc : Nat} {xs : List Value} {g M : Nat} {f : Nat → Nat} {n : Nat} (h : TabAt w pc xs g M f n) : pc ≠ g := fun e => by
  have h1 := h.blk; have h2 := h.row
  unfold Rw at h1 h2
  rw [e, h2] at h1
  simp at h1

/-- a slot laid at i, and the number of slots turned -/
theorem TabAt.laid {w : World} {pc : Nat} {xs : List Value} {g M : Nat} {f : Nat → Nat} {n : Nat} (h : TabAt w pc xs g M f n) (i s m q : Nat) :
    Rw (((w.setCell ⟨g, i, none⟩ (.int .u64 s)).setCell ⟨pc, 8, none⟩ (.int .i64 m)).drewN q) pc 57 (xs.set 8 (.int .i64 m)) ∧ Rw (((w.setCell ⟨g, i, none⟩ (.int .u64 s)).setCell ⟨pc, 8, none⟩ (.int .i64 m)).drewN q) g 44 (tab (us (put' f i s)) M) ∧
      Kept [pc, g] w (((w.setCell ⟨g, i, none⟩ (.int .u64 s)).setCell ⟨pc, 8, none⟩ (.int .i64 m)).drewN q) := by
  have hne := h.ne
  refine ⟨?_, ?_, (((Kept.refl _ _).setCell (by simp) _).setCell (by simp) _).drewN _⟩
  · have : (w.setCell ⟨g, i, none⟩ (.int .u64 s)).heap[pc]? = some (.cells xs.toArray 57 (0, 0)) := by rw [Below.heap_setCell _ _ _ _ hne]; exact h.blk
    show ((w.setCell ⟨g, i, none⟩ (.int .u64 s)).setCell ⟨pc, 8, none⟩ (.int .i64 m)).heap[pc]? = _
    rw [set_of this]; simp
  · show ((w.setCell ⟨g, i, none⟩ (.int .u64 s)).setCell ⟨pc, 8, none⟩ (.int .i64 m)).heap[g]? = _
    rw [Below.heap_setCell _ _ _ _ (fun e => hne e.symm), set_of h.row, ← us_put]; simp

set_option maxRecDepth 100000 in
set_option maxHeartbeats 1000000 in
theorem put_any (pc g M n key v : Nat) (xs : List Value) (f D : Nat → Nat) (w : World) (ht : TabAt w pc xs g M f n) (hT : Tbl M (home M) f D) (hD : D key = 0) (hk : key < 4294967296) (hv : v ≠ 0) (hv' : v < 4294967296) (hn : n < 1048576) :
    Calls Try.prog 41 #[.pointer (some ⟨pc, 7, none⟩), .int .u32 key, .int .u32 v] w fun e w' => e = .returned (.tuple #[]) ∧ ∃ xs' g' M' f', TabAt w' pc xs' g' M' f' (n + 1) ∧ Tbl M' (home M') f' (put' D key v) ∧ (∀ i, i ≠ 7 → i ≠ 8 → xs'[i]? = xs[i]?) ∧ (g' = g ∨ w.heap.size ≤ g') ∧ Kept [pc, g] w w' := by
  have hl := ht.pow.le
  have c7 := ht.c7
  have c8 := ht.c8
  have f8 : w.frozen? ⟨pc, 8, none⟩ = false := free_of ht.blk 8
  have hne := ht.ne
  have hne2 : g ≠ pc := fun e => hne e.symm
  have HT : Hid (TabAt w pc xs g M f n) := ht
  have HTb : Hid (Tbl M (home M) f D) := hT
  have HD : Hid (D key = 0) := hD
  have HH : Hid (Calls Try.prog 37 #[.pointer (some ⟨pc, 7, none⟩), .int .u32 key] w.drew fun e w' => e = .returned (.int .i64 (home M key)) ∧ w' = w.drew) := home_any pc M key g w.drew ht.pow c7 hk
  have HV : Hid (Calls Try.prog 46 #[.pointer (some ⟨pc, 7, none⟩), .int .i64 (home M key)] w.drew fun e w' => ∃ i : Nat, e = .returned (.int .i64 i) ∧ w' = w.drew ∧ i < M ∧ (∀ q, q < M → dist M (home M key) q < dist M (home M key) i → f q ≠ 0) ∧ f i = 0) := vacancy_any pc g M _ f w.drew ht.rd.drew (home_lt (by omega) _)
  clear ht hT hD
  go_enter Try.func41, Try.ntmps41
  go_wp2_with fail
  go_region_held3 (fun x => x.cell? ⟨pc, 7, none⟩ = some (.slice (some ⟨g, 0, none⟩) M M)) (go_keep) (first | (go_at_call 37; refine HH.out.mono ?_; rintro e wq ⟨rfl, hwq⟩; subst hwq) | (go_at_call 46; refine HV.out.mono ?_; rintro e wq ⟨i, rfl, hwq, hi, hiv, hi0⟩; subst hwq; have hiI : (i : Int) < (M : Int) := (by omega); have e5 := HT.out.slot hi; have f5 : w.frozen? ⟨g, i, none⟩ = false := free_of HT.out.row i))
  have hval : bits .or .u64 ((key : Int) * 4294967296) (v : Int) = ((key * 4294967296 + v : Nat) : Int) := or_slot key v hk hv'
  have hlay := HT.out.laid i (key * 4294967296 + v) (n + 1)
  rw [← hval] at hlay
  have HL : Hid (∀ q, Rw (((w.setCell ⟨g, i, none⟩ (.int .u64 (bits .or .u64 ((key : Int) * 4294967296) (v : Int)))).setCell ⟨pc, 8, none⟩ (.int .i64 ((n : Int) + 1))).drewN q) pc 57 (xs.set 8 (.int .i64 ((n + 1 : Nat) : Int))) ∧ Rw (((w.setCell ⟨g, i, none⟩ (.int .u64 (bits .or .u64 ((key : Int) * 4294967296) (v : Int)))).setCell ⟨pc, 8, none⟩ (.int .i64 ((n : Int) + 1))).drewN q) g 44 (tab (us (put' f i (key * 4294967296 + v))) M) ∧
      Kept [pc, g] w (((w.setCell ⟨g, i, none⟩ (.int .u64 (bits .or .u64 ((key : Int) * 4294967296) (v : Int)))).setCell ⟨pc, 8, none⟩ (.int .i64 ((n : Int) + 1))).drewN q)) := hlay
  have hT1 : Tbl M (home M) (put' f i (key * 4294967296 + v)) (put' D key v) := HTb.out.put (h := 0) HD.out hi hiv hi0 hv hv'
  have HT1 : Hid (Tbl M (home M) (put' f i (key * 4294967296 + v)) (put' D key v)) := hT1
  have hc1 : cnt (put' f i (key * 4294967296 + v)) M = n + 1 := by
    have h1 := cnt_put (f := f) (v := key * 4294967296 + v) hi
    have h2 := HT.out.cnt
    rw [hi0] at h1
    have h3 : ¬ key * 4294967296 + v = 0 := by omega
    rw [if_neg h3] at h1
    simp at h1
    omega
  have HC1 : Hid (cnt (put' f i (key * 4294967296 + v)) M = n + 1) := hc1
  have HB1 : Hid (∀ q, q < M → put' f i (key * 4294967296 + v) q < 18446744073709551616) := fun q hq => by
    by_cases e : q = i
    · subst e; rw [put_same]; omega
    · rw [put_ne _ _ e]; exact HT.out.bnd q hq
  clear hval hlay hT1 hc1 hiv hi0 HH HV
  have hnx : n ≤ 1099511627776 := by omega
  by_cases hfull : 7 * (M : Int) < 8 * ((n : Int) + 1)
  · go_wp2_with fail
    go_quiet (fail)
    go_wp2_with fail
    obtain ⟨l1, l2, l3⟩ := HL.out (1 + nq)
    have hrz := resize_any pc g M (2 * M) (n + 1) (xs.set 8 (.int .i64 ((n + 1 : Nat) : Int))) (put' f i (key * 4294967296 + v)) (put' D key v) _ l1 (by simp [HT.out.len]) (by rw [List.getElem?_set_ne (by decide)]; exact HT.out.sl) l2 HT1.out.toEnt (HT.out.pow.dbl (by omega)) (by omega) HB1.out HC1.out (by have := HT.out.full; omega)
    rw [show ((2 * M : Nat) : Int) = 2 * (M : Int) from by omega] at hrz
    refine hrz.mono ?_
    rintro e w' ⟨rfl, f', r1, r2, r3, r4, r5, r6⟩
    have hsz : w.heap.size = (((w.setCell ⟨g, i, none⟩ (.int .u64 (bits .or .u64 ((key : Int) * 4294967296) (v : Int)))).setCell ⟨pc, 8, none⟩ (.int .i64 ((n : Int) + 1))).drewN (1 + nq)).heap.size := by simp [World.setCell, World.drewN]
    have HF : Hid (∃ xs' g' M' f', TabAt w' pc xs' g' M' f' (n + 1) ∧ Tbl M' (home M') f' (put' D key v) ∧ (∀ i, i ≠ 7 → i ≠ 8 → xs'[i]? = xs[i]?) ∧ (g' = g ∨ w.heap.size ≤ g') ∧ Kept [pc, g] w w') := by
      rw [← hsz] at r1 r2
      refine ⟨_, _, _, f', ⟨r1, by simp [HT.out.len], by simp [HT.out.len], ?_, r2, HT.out.pow.dbl (by omega), r5, r4, by have := HT.out.full; omega⟩, r3, fun j h7 h8 => ?_, .inr (Nat.le_refl _), l3.trans (r6.mono (by simp))⟩
      · rw [List.getElem?_set_ne (by decide)]; simp [HT.out.len]
      · rw [List.getElem?_set_ne (fun e => h7 e.symm), List.getElem?_set_ne (fun e => h8 e.symm)]
    clear l1 l2 l3 hrz r1 r2 r3 r4 r5 r6 hsz
    go_wp2_with fail
    go_end0
    exact ⟨rfl, HF.out⟩
  · go_wp2_with fail
    go_quiet (fail)
    go_wp2_with fail
    go_end0
    obtain ⟨l1, l2, l3⟩ := HL.out (1 + nq)
    refine ⟨rfl, _, g, M, _, ⟨l1, by simp [HT.out.len], by rw [List.getElem?_set_ne (by decide)]; exact HT.out.sl, by simp [HT.out.len], l2, HT.out.pow, HB1.out, HC1.out, by omega⟩, HT1.out, fun j h7 h8 => ?_, .inl rfl, ⟨l3.os, l3.tape, l3.output, l3.size, l3.block⟩⟩
    rw [List.getElem?_set_ne (fun e => h8 e.symm)]

end Go.Proofs.Qxb6616938a.A
