import Derived.Test.Qxb6616938aRows
import Derived.Test.Qxb6616938aU
import Derived.WalkKit
import Derived.ProofKit
import Derived.Outline
import Derived.WalkSpells
import Derived.Deep.QuietTactic
import Derived.BigQuiet
import Derived.Deep.RegionHeld3
import Derived.Deep.RegionLaw
import Derived.Deep.DrawnRows
import Derived.Deep.AppendLies
import Derived.Deep.CutRange
import Derived.Deep.CutBlock
import Derived.Deep.OwnRows
import Derived.Laws.Cover2
import Derived.Lib.AppendZeros
namespace Go.Proofs.Qxb6616938a.A
open Go.ChangeShapes Go.WideShapes Go.ChangeAt Go.RowKit
set_option linter.unusedVariables false

/-- of the blocks that were there, those in S alone may have turned -/
structure Kept (S : List Nat) (w w' : World) : Prop where
  os : w'.os = w.os
  tape : w'.tape = w.tape
  output : w'.output = w.output
  size : w.heap.size ≤ w'.heap.size
  block : ∀ k, k < w.heap.size → k ∉ S → w'.heap[k]? = w.heap[k]?

theorem Kept.refl (S : List Nat) (w : World) : Kept S w w := ⟨rfl, rfl, rfl, Nat.le_refl _, fun _ _ _ => rfl⟩
theorem Kept.trans {S : List Nat} {a b c : World} (h : Kept S a b) (k : Kept S b c) : Kept S a c :=
  ⟨k.os.trans h.os, k.tape.trans h.tape, k.output.trans h.output, Nat.le_trans h.size k.size, fun i hi hs => (k.block i (Nat.lt_of_lt_of_le hi h.size) hs).trans (h.block i hi hs)⟩
theorem Kept.mono {S T : List Nat} {a b : World} (h : Kept S a b) (hs : ∀ k ∈ S, k ∈ T) : Kept T a b :=
  ⟨h.os, h.tape, h.output, h.size, fun k hk hn => h.block k hk (fun hm => hn (hs k hm))⟩
theorem Kept.drew {S : List Nat} {a b : World} (h : Kept S a b) : Kept S a b.drew := ⟨h.os, h.tape, h.output, h.size, h.block⟩
theorem Kept.drewN {S : List Nat} {a b : World} (h : Kept S a b) (n : Nat) : Kept S a (b.drewN n) := ⟨h.os, h.tape, h.output, h.size, h.block⟩
theorem Kept.alloc {S : List Nat} {a b : World} (h : Kept S a b) (o : Obj) : Kept S a (b.alloc o) :=
  h.trans ⟨rfl, rfl, rfl, by simp, fun k hk _ => Below.heap_alloc _ _ _ hk⟩
theorem Kept.setCell {S : List Nat} {a b : World} (h : Kept S a b) {p : Addr} (hp : p.block ∈ S) (u : Value) : Kept S a (b.setCell p u) :=
  h.trans ⟨rfl, rfl, rfl, by simp [World.setCell], fun k _ hn => Below.heap_setCell _ _ _ _ (fun e => hn (e ▸ hp))⟩
theorem Kept.setNew {S : List Nat} {a b : World} (h : Kept S a b) {p : Addr} (hp : a.heap.size ≤ p.block) (u : Value) : Kept S a (b.setCell p u) :=
  ⟨h.os, h.tape, h.output, by simp [World.setCell]; exact h.size, fun k hk hn => by rw [Below.heap_setCell _ _ _ _ (by omega)]; exact h.block k hk hn⟩
theorem Kept.at {S : List Nat} {a b : World} (h : Kept S a b) {k : Nat} {o : Obj} (hk : a.heap[k]? = some o) (hn : k ∉ S) : b.heap[k]? = some o :=
  (h.block k (lt_of_block hk) hn).trans hk
theorem Kept.below {S : List Nat} {a b : World} (h : Kept S a b) {B : Nat} (hB : B ≤ a.heap.size) (hs : ∀ k ∈ S, B ≤ k) : Below B a b :=
  ⟨h.os, h.tape, h.output, h.size, fun k hk => h.block k (by omega) (fun hm => by have := hs k hm; omega)⟩
theorem Kept.grown {S : List Nat} {a b c : World} {row : Option Nat} (h : Kept S a b) (hg : b.grownBy c row) (hr : ∀ k, row = some k → k ∈ S ∨ a.heap.size ≤ k) : Kept S a c :=
  ⟨hg.os.trans h.os, hg.tape.trans h.tape, hg.output.trans h.output, Nat.le_trans h.size hg.size, fun k hk hn => by
    rw [hg.block k (Nat.lt_of_lt_of_le hk h.size) (fun e => by rcases hr k e.symm with h1 | h1 <;> first | exact hn h1 | omega)]; exact h.block k hk hn⟩

theorem cells_of {w : World} {p : Nat} {cs : Array Value} {t : TypeId} (h : w.heap[p]? = some (.cells cs t (0, 0))) (i : Nat) : w.cell? ⟨p, i, none⟩ = cs[i]? := by simp [World.cell?, h]
theorem free_of {w : World} {p : Nat} {cs : Array Value} {t : TypeId} (h : w.heap[p]? = some (.cells cs t (0, 0))) (i : Nat) : w.frozen? ⟨p, i, none⟩ = false := by simp [World.frozen?, h]
theorem set_of {w : World} {p : Nat} {cs : Array Value} {t : TypeId} (h : w.heap[p]? = some (.cells cs t (0, 0))) (i : Nat) (u : Value) : (w.setCell ⟨p, i, none⟩ u).heap[p]? = some (.cells (cs.setIfInBounds i u) t (0, 0)) := by
  simp only [World.setCell, Array.getElem?_modify, if_true, h]; simp
theorem drewN_heap (w : World) (n : Nat) : (w.drewN n).heap = w.heap := rfl


def Rw (w : World) (g : Nat) (t : TypeId) (xs : List Value) : Prop := w.heap[g]? = some (.cells xs.toArray t (0, 0))
theorem made_list (z : Value) (n : Nat) : madeCells #[z] n = (List.replicate n z).toArray := by
  rw [← toList_madeCells_one]

/-- a table of n values -/
def tab (f : Nat → Value) (n : Nat) : List Value := (List.range n).map f
theorem tab_len (f : Nat → Value) (n : Nat) : (tab f n).length = n := by simp [tab]
theorem tab_at (f : Nat → Value) {n j : Nat} (h : j < n) : (tab f n)[j]? = some (f j) := by simp [tab, h]
theorem tab_congr {f g : Nat → Value} {n : Nat} (h : ∀ j, j < n → f j = g j) : tab f n = tab g n := by
  unfold tab; exact List.map_congr_left fun j hj => h j (List.mem_range.1 hj)
theorem tab_set (f : Nat → Value) (n k : Nat) (v : Value) : (tab f n).set k v = tab (fun j => if j = k then v else f j) n := by
  apply List.ext_getElem?
  intro j
  by_cases hj : j < n
  · by_cases e : j = k
    · subst e; simp [tab, hj]
    · rw [List.getElem?_set_ne (fun h => e h.symm), tab_at _ hj, tab_at _ hj, if_neg e]
  · rw [List.getElem?_eq_none (by simp [tab]; omega), List.getElem?_eq_none (by simp [tab]; omega)]
theorem tab_rep (v : Value) (n : Nat) : tab (fun _ => v) n = List.replicate n v := by
  unfold tab; simp [List.map_const']

theorem Rw.kept {w w' : World} {S : List Nat} {g t : Nat} {xs : List Value} (h : Rw w g t xs) (k : Kept S w w') (hn : g ∉ S) : Rw w' g t xs := k.at h hn
theorem Rw.lt {w : World} {g t : Nat} {xs : List Value} (h : Rw w g t xs) : g < w.heap.size := lt_of_block h
theorem Rw.cell {w : World} {g t : Nat} {f : Nat → Value} {n : Nat} (h : Rw w g t (tab f n)) {j : Nat} (hj : j < n) : w.cell? ⟨g, j, none⟩ = some (f j) := by
  rw [cells_of h j]; simpa using tab_at f hj


/-- the places of a table, as they lie -/
def us (f : Nat → Nat) : Nat → Value := fun j => .int .u64 (f j)
theorem us_put (f : Nat → Nat) (M i v : Nat) : (tab (us f) M).set i (.int .u64 v) = tab (us (put' f i v)) M := by
  rw [tab_set]
  apply tab_congr
  intro j _
  unfold us put'
  by_cases e : j = i
  · simp [e]
  · simp [e]

def home (M key : Nat) : Nat := key * 2654435769 % 4294967296 % M
theorem home_lt {M : Nat} (h : 0 < M) (key : Nat) : home M key < M := Nat.mod_lt _ h

theorem Kept.cell {S : List Nat} {a b : World} (h : Kept S a b) {p : Addr} {v : Value} (hc : a.cell? p = some v) (hn : p.block ∉ S) : b.cell? p = some v := by
  rw [World.cell?_of_block (w := a) (h.block p.block (World.block_lt_of_cell? _ _ hc) hn)]; exact hc

/-- a power of 2 that a table may have as its length -/
def Pow (M : Nat) : Prop := ∃ p, 4 ≤ p ∧ p ≤ 40 ∧ M = 2 ^ p
theorem Pow.le {M : Nat} (h : Pow M) : 16 ≤ M ∧ M ≤ 1099511627776 := by
  obtain ⟨p, h1, h2, rfl⟩ := h
  exact ⟨Nat.pow_le_pow_right (n := 2) (by decide) h1, Nat.pow_le_pow_right (n := 2) (by decide) h2⟩
theorem Pow.mask {M : Nat} (h : Pow M) (x : Int) : bits .and .i64 x (wrap64 ((M : Int) - 1)) = x % M := by
  have hl := h.le
  obtain ⟨p, h1, h2, rfl⟩ := h
  rw [show wrap64 (((2 ^ p : Nat) : Int) - 1) = ((2 ^ p : Nat) : Int) - 1 from by unfold wrap64; omega]
  exact and_mask p h2 x
theorem Pow.mask' {M : Nat} (h : Pow M) (x : Int) : bits .and .i64 x ((M : Int) - 1) = x % M := by
  obtain ⟨p, h1, h2, rfl⟩ := h
  exact and_mask p h2 x
theorem Pow.dbl {M : Nat} (h : Pow M) (hM : M ≤ 1073741824) : Pow (2 * M) := by
  obtain ⟨p, h1, h2, rfl⟩ := h
  refine ⟨p + 1, by omega, ?_, by rw [Nat.pow_succ]; omega⟩
  have : ¬ 31 ≤ p := fun h => by
    have : 2 ^ 31 ≤ 2 ^ p := Nat.pow_le_pow_right (by decide) h
    omega
  omega
theorem Pow.half {M : Nat} (h : Pow M) (hM : 16 < M) : Pow (M / 2) := by
  obtain ⟨p, h1, h2, rfl⟩ := h
  have : p ≠ 4 := fun e => by subst e; omega
  refine ⟨p - 1, by omega, by omega, ?_⟩
  obtain ⟨q, rfl⟩ : ∃ q, p = q + 1 := ⟨p - 1, by omega⟩
  rw [Nat.pow_succ]; simp
theorem Pow.sixteen : Pow 16 := ⟨4, by decide, by decide, by decide⟩
theorem nx_mod {M i : Nat} (hi : i < M) : ((i : Int) + 1) % M = (nx M i : Nat) := by
  unfold nx
  split
  · rw [Int.emod_eq_of_lt (by omega) (by omega)]; omega
  · rw [show (i : Int) + 1 = M by omega, Int.emod_self]; rfl

theorem home_any (pc M key g : Nat) (w : World) (hp : Pow M) (hc : w.cell? ⟨pc, 7, none⟩ = some (.slice (some ⟨g, 0, none⟩) M M)) (hk : key < 4294967296) :
    Calls Try.prog 37 #[.pointer (some ⟨pc, 7, none⟩), .int .u32 key] w fun e w' => e = .returned (.int .i64 (home M key)) ∧ w' = w := by
  have HM : Hid (Pow M) := hp
  clear hp
  go_enter Try.func37, Try.ntmps37
  go_wp2
  go_ret
  refine ⟨?_, rfl⟩
  show Ending.returned (.int .i64 (bits .and .i64 ((key : Int) * 2654435769 % 4294967296) (wrap64 ((M : Int) - 1)))) = _
  rw [HM.out.mask]
  unfold home
  simp

theorem next_any (pc M i g : Nat) (w : World) (hp : Pow M) (hc : w.cell? ⟨pc, 7, none⟩ = some (.slice (some ⟨g, 0, none⟩) M M)) (hi : i < M) :
    Calls Try.prog 43 #[.pointer (some ⟨pc, 7, none⟩), .int .i64 i] w fun e w' => e = .returned (.int .i64 (nx M i)) ∧ w' = w := by
  have HM : Hid (Pow M) := hp
  have hl := hp.le
  clear hp
  go_enter Try.func43, Try.ntmps43
  go_wp2
  go_ret
  refine ⟨?_, rfl⟩
  show Ending.returned (.int .i64 (bits .and .i64 ((i : Int) + 1) ((M : Int) - 1))) = _
  rw [HM.out.mask', nx_mod hi]

/-- a table that lies in a chain's block: xs are the block's cells -/
structure TabAt (w : World) (pc : Nat) (xs : List Value) (g M : Nat) (f : Nat → Nat) (n : Nat) : Prop where
  blk : Rw w pc 57 xs
  len : xs.length = 21
  sl : xs[7]? = some (.slice (some ⟨g, 0, none⟩) M M)
  nn : xs[8]? = some (.int .i64 n)
  row : Rw w g 44 (tab (us f) M)
  pow : Pow M
  bnd : ∀ i, i < M → f i < 18446744073709551616
  cnt : cnt f M = n
  full : 8 * n ≤ 7 * M

theorem TabAt.c7 {w : World} {pc : Nat} {xs : List Value} {g M : Nat} {f : Nat → Nat} {n : Nat} (h : TabAt w pc xs g M f n) : w.cell? ⟨pc, 7, none⟩ = some (.slice (some ⟨g, 0, none⟩) M M) := by
  rw [cells_of h.blk 7]; simpa using h.sl
theorem TabAt.c8 {w : World} {pc : Nat} {xs : List Value} {g M : Nat} {f : Nat → Nat} {n : Nat} (h : TabAt w pc xs g M f n) : w.cell? ⟨pc, 8, none⟩ = some (.int .i64 n) := by
  rw [cells_of h.blk 8]; simpa using h.nn
theorem TabAt.slot {w : World} {pc : Nat} {xs : List Value} {g M : Nat} {f : Nat → Nat} {n : Nat} (h : TabAt w pc xs g M f n) {i : Nat} (hi : i < M) : w.cell? ⟨g, i, none⟩ = some (.int .u64 (f i)) := h.row.cell hi

/-- where a table's places are read -/
structure Rd (w : World) (pc g M : Nat) (f : Nat → Nat) : Prop where
  c7 : w.cell? ⟨pc, 7, none⟩ = some (.slice (some ⟨g, 0, none⟩) M M)
  row : Rw w g 44 (tab (us f) M)
  pow : Pow M
  bnd : ∀ i, i < M → f i < 18446744073709551616
  free : ∃ z, z < M ∧ f z = 0

set_option maxRecDepth 100000 in
theorem seek_any (pc g M key h : Nat) (f : Nat → Nat) (w : World) (hr : Rd w pc g M f) (hk : key < 4294967296) (hh : h < M) :
    Calls Try.prog 36 #[.pointer (some ⟨pc, 7, none⟩), .int .u32 key, .int .i64 h] w fun e w' => ∃ (i : Nat) (b : Bool), e = .returned (.tuple #[.int .i64 i, .bool b]) ∧ w' = w ∧ Sk M f h key i ∧ ((b = true ∧ f i ≠ 0 ∧ f i / 4294967296 = key) ∨ (b = false ∧ f i = 0)) := by
  have HR : Hid (Rd w pc g M f) := hr
  have c7 := hr.c7
  have hl := hr.pow.le
  obtain ⟨z, hz, hz0⟩ := hr.free
  have HZ : Hid (f z = 0) := hz0
  clear hr hz0
  go_enter Try.func36, Try.ntmps36
  go_wp2_with fail
  go_loopw [2] (fun t wr => ∃ i : Nat, t = .int .i64 i ∧ Sk M f h key i ∧ wr = w) (fun t _ => dist M (intOf t).toNat z)
  case atStart => exact ⟨h, rfl, Sk.start f key hh, rfl⟩
  case round =>
    obtain ⟨i, rfl, hsk, hwr⟩ := hrel
    subst hwr
    have HS : Hid (Sk M f h key i) := hsk
    have hi := hsk.1
    have e1 : wr.cell? ⟨g, i, none⟩ = some (.int .u64 (f i)) := HR.out.row.cell hi
    have hiI : (i : Int) < (M : Int) := by omega
    have hb := HR.out.bnd i hi
    have HN : Hid (Calls Try.prog 43 #[.pointer (some ⟨pc, 7, none⟩), .int .i64 i] wr fun e w' => e = .returned (.int .i64 (nx M i)) ∧ w' = wr) := next_any pc M i g wr HR.out.pow c7 hi
    clear hsk
    obtain ⟨s, hs⟩ : ∃ s, s = f i := ⟨_, rfl⟩
    have HSf : Hid (s = f i) := hs
    rw [← hs] at e1 hb
    clear hs
    by_cases h0 : s = 0
    · subst h0
      go_wp2_with fail
      go_ret2
      exact ⟨i, false, rfl, rfl, HS.out, .inr ⟨rfl, HSf.out.symm⟩⟩
    · have h0' : ((s : Int) != 0) = true := by rw [bne_iff_ne]; omega
      by_cases hq : s / 4294967296 = key
      · have hq' : ((s : Int) / 4294967296 == (key : Int)) = true := by rw [beq_iff_eq]; omega
        go_wp2_with fail
        go_ret2
        exact ⟨i, true, rfl, rfl, HS.out, .inl ⟨rfl, by rw [← HSf.out]; exact h0, by rw [← HSf.out]; exact hq⟩⟩
      · have hq' : ((s : Int) / 4294967296 == (key : Int)) = false := by rw [beq_eq_false_iff_ne]; omega
        go_wp2_with fail
        refine HN.out.mono ?_
        rintro e w' ⟨rfl, hw'⟩
        subst hw'
        have hst := HS.out.step hh hz HZ.out (by rw [← HSf.out]; exact h0) (by rw [← HSf.out]; exact hq)
        have HST : Hid (Sk M f h key (nx M i)) := hst.1
        have hms := hst.2
        clear hst
        go_wp2_with fail
        go_roundw
        case rel => exact ⟨nx M i, rfl, HST.out, trivial⟩
        case measure => simpa [intOf] using hms

set_option maxRecDepth 100000 in
theorem vacancy_any (pc g M h : Nat) (f : Nat → Nat) (w : World) (hr : Rd w pc g M f) (hh : h < M) :
    Calls Try.prog 46 #[.pointer (some ⟨pc, 7, none⟩), .int .i64 h] w fun e w' => ∃ i : Nat, e = .returned (.int .i64 i) ∧ w' = w ∧ i < M ∧ (∀ q, q < M → dist M h q < dist M h i → f q ≠ 0) ∧ f i = 0 := by
  have HR : Hid (Rd w pc g M f) := hr
  have c7 := hr.c7
  have hl := hr.pow.le
  obtain ⟨z, hz, hz0⟩ := hr.free
  have HZ : Hid (f z = 0) := hz0
  have HK : Hid (∀ q, q < M → f q / 4294967296 ≠ 4294967296) := fun q hq => by have := hr.bnd q hq; omega
  clear hr hz0
  go_enter Try.func46, Try.ntmps46
  go_wp2_with fail
  go_loopw [1] (fun t wr => ∃ i : Nat, t = .int .i64 i ∧ Sk M f h 4294967296 i ∧ wr = w) (fun t _ => dist M (intOf t).toNat z)
  case atStart => exact ⟨h, rfl, Sk.start f _ hh, rfl⟩
  case round =>
    obtain ⟨i, rfl, hsk, hwr⟩ := hrel
    subst hwr
    have HS : Hid (Sk M f h 4294967296 i) := hsk
    have hi := hsk.1
    have e1 : wr.cell? ⟨g, i, none⟩ = some (.int .u64 (f i)) := HR.out.row.cell hi
    have hiI : (i : Int) < (M : Int) := by omega
    have HN : Hid (Calls Try.prog 43 #[.pointer (some ⟨pc, 7, none⟩), .int .i64 i] wr fun e w' => e = .returned (.int .i64 (nx M i)) ∧ w' = wr) := next_any pc M i g wr HR.out.pow c7 hi
    clear hsk
    obtain ⟨s, hs⟩ : ∃ s, s = f i := ⟨_, rfl⟩
    have HSf : Hid (s = f i) := hs
    rw [← hs] at e1
    clear hs
    by_cases h0 : s = 0
    · subst h0
      go_wp2_with fail
      go_ret
      exact ⟨i, rfl, rfl, hi, fun q hq hd => (HS.out.2 q hq hd).1, HSf.out.symm⟩
    · have h0' : ((s : Int) != 0) = true := by rw [bne_iff_ne]; omega
      go_wp2_with fail
      refine HN.out.mono ?_
      rintro e w' ⟨rfl, hw'⟩
      subst hw'
      have hst := HS.out.step hh hz HZ.out (by rw [← HSf.out]; exact h0) (HK.out i hi)
      have HST : Hid (Sk M f h 4294967296 (nx M i)) := hst.1
      have hms := hst.2
      clear hst
      go_wp2_with fail
      go_roundw
      case rel => exact ⟨nx M i, rfl, HST.out, trivial⟩
      case measure => simpa [intOf] using hms

end Go.Proofs.Qxb6616938a.A
