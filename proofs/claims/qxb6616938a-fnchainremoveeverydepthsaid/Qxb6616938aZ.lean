import Derived.Test.Qxb6616938aY
import Derived.Lib.SliceRun
namespace Go.Proofs.Qxb6616938a.A
open Go.ChangeShapes Go.WideShapes Go.ChangeAt Go.RowKit
set_option linter.unusedVariables false

/-- all blocks are as they were but pc and, from B on, those of 64-bit slots -/
structure Kt (B pc : Nat) (w w' : World) : Prop where
  os : w'.os = w.os
  tape : w'.tape = w.tape
  output : w'.output = w.output
  size : w.heap.size ≤ w'.heap.size
  block : ∀ k, k < w.heap.size → k ≠ pc → (k < B ∨ ∀ cs, w.heap[k]? ≠ some (.cells cs 44 (0, 0))) → w'.heap[k]? = w.heap[k]?

theorem Kt.refl (B pc : Nat) (w : World) : Kt B pc w w := ⟨rfl, rfl, rfl, Nat.le_refl _, fun _ _ _ _ => rfl⟩
theorem Kt.trans {B pc : Nat} {a b c : World} (h : Kt B pc a b) (k : Kt B pc b c) : Kt B pc a c :=
  ⟨k.os.trans h.os, k.tape.trans h.tape, k.output.trans h.output, Nat.le_trans h.size k.size, fun i hi hn ht => by
    have e := h.block i hi hn ht
    rw [k.block i (Nat.lt_of_lt_of_le hi h.size) hn (by rw [e]; exact ht), e]⟩
theorem Kt.drew {B pc : Nat} {a b : World} (h : Kt B pc a b) : Kt B pc a b.drew := ⟨h.os, h.tape, h.output, h.size, h.block⟩
theorem Kt.drewN {B pc : Nat} {a b : World} (h : Kt B pc a b) (n : Nat) : Kt B pc a (b.drewN n) := ⟨h.os, h.tape, h.output, h.size, h.block⟩
theorem Kt.setCell {B pc : Nat} {a b : World} (h : Kt B pc a b) (i : Nat) (u : Value) : Kt B pc a (b.setCell ⟨pc, i, none⟩ u) :=
  h.trans ⟨rfl, rfl, rfl, by simp [World.setCell], fun k _ hn _ => Below.heap_setCell _ _ _ _ hn⟩
theorem Kt.alloc {B pc : Nat} {a b : World} (h : Kt B pc a b) (o : Obj) : Kt B pc a (b.alloc o) :=
  h.trans ⟨rfl, rfl, rfl, by simp, fun k hk _ _ => Below.heap_alloc _ _ _ hk⟩
theorem Kt.of {B pc g : Nat} {a b : World} {ys : List Value} (h : Kept [pc, g] a b) (hr : Rw a g 44 ys) (hB : B ≤ g) : Kt B pc a b :=
  ⟨h.os, h.tape, h.output, h.size, fun k hk hn ht => h.block k hk (by
    intro hm
    simp at hm
    rcases hm with e | e
    · exact hn e
    · subst e
      rcases ht with h1 | h1
      · omega
      · exact h1 _ hr)⟩
theorem Kt.of0 {B pc : Nat} {a b : World} (h : Kept [pc] a b) : Kt B pc a b :=
  ⟨h.os, h.tape, h.output, h.size, fun k hk hn _ => h.block k hk (by simp; exact hn)⟩
theorem Kt.rw {B pc : Nat} {a b : World} (h : Kt B pc a b) {k t : Nat} {ys : List Value} (hr : Rw a k t ys) (ht : t ≠ 44) (hn : k ≠ pc) : Rw b k t ys := by
  unfold Rw at *
  rw [h.block k (lt_of_block hr) hn (.inr fun cs e => by rw [hr] at e; simp at e; exact ht e.2), hr]
theorem Kt.below {B pc : Nat} {a b : World} (h : Kt B pc a b) (hB : B ≤ a.heap.size) (hp : B ≤ pc) : Below B a b :=
  ⟨h.os, h.tape, h.output, h.size, fun k hk => h.block k (by omega) (by omega) (.inl hk)⟩

def Small (xs : List Value) (D : Nat → Nat) (c : Nat) : Prop := ∃ (n : Nat) (f : Nat → Nat), n ≤ 6 ∧ xs[6]? = some (.int .i64 n) ∧ xs[7]? = some (.slice none 0 0) ∧ (∀ j, j < 6 → xs[j]? = some (.int .u64 (f j))) ∧ Ent n f D ∧ (∀ j, j < n → f j ≠ 0) ∧ (∀ j, j < 6 → f j < 18446744073709551616) ∧ n ≤ c
def Big (w : World) (B pc : Nat) (xs : List Value) (D : Nat → Nat) (c : Nat) : Prop := ∃ (g M : Nat) (f : Nat → Nat) (n : Nat), TabAt w pc xs g M f n ∧ Tbl M (home M) f D ∧ B ≤ g ∧ n ≤ c ∧ xs[6]? = some (.int .i64 0) ∧ ∀ j, j < 6 → xs[j]? = some (.int .u64 0)

structure NM (w : World) (B pc : Nat) (xs : List Value) (D : Nat → Nat) (c : Nat) : Prop where
  blk : Rw w pc 57 xs
  len : xs.length = 21
  pc_le : B ≤ pc
  st : Small xs D c ∨ Big w B pc xs D c

def key32 (kz : Int) : Nat := (kz % 4294967296).toNat
theorem key32_lt (kz : Int) : key32 kz < 4294967296 := by unfold key32; omega
theorem key32_eq (kz : Int) : kz % 4294967296 = (key32 kz : Nat) := by unfold key32; omega
theorem key32_inj {a b : Int} (ha : -2147483648 ≤ a ∧ a ≤ 2147483647) (hb : -2147483648 ≤ b ∧ b ≤ 2147483647) (h : key32 a = key32 b) : a = b := by unfold key32 at h; omega

/-- no key among the first i of n -/
theorem Ent.absent {n : Nat} {f D : Nat → Nat} {k : Nat} (h : Ent n f D) (ha : ∀ j, j < n → f j / 4294967296 ≠ k) : D k = 0 := by
  by_cases e : D k = 0
  · exact e
  · obtain ⟨i, h1, h2, h3⟩ := h.has k e
    exact absurd h3 (ha i h1)

theorem nil_yes (w : World) : (binOp .eql 46 (.slice none 0 0) (.slice none 0 0)).run Try.prog w = .ok (.bool true) w := Lib.run_eql_slice_nil w 46 44 none _ _ _ _ Try.underlying46
theorem nil_no (a : Addr) (n c : Nat) (w : World) : (binOp .eql 46 (.slice (some a) n c) (.slice none 0 0)).run Try.prog w = .ok (.bool false) w := Lib.run_eql_slice_nil w 46 44 (some a) _ _ _ _ Try.underlying46

set_option maxRecDepth 100000 in
set_option maxHeartbeats 1000000 in
theorem get_small (pc : Nat) (kz : Int) (xs : List Value) (D : Nat → Nat) (c : Nat) (w : World) (hb : Rw w pc 57 xs) (hs : Small xs D c) :
    Calls Try.prog 30 #[.pointer (some ⟨pc, 0, none⟩), .int .i32 kz] w fun e w' => e = .returned (.int .u32 (D (key32 kz))) ∧ ∃ q, w' = w.drewN q := by
  obtain ⟨n, f, hn, h6, h7, hj, hE, hne, hbd, hc⟩ := hs
  have c6 : w.cell? ⟨pc, 6, none⟩ = some (.int .i64 n) := by rw [cells_of hb 6]; simpa using h6
  have c7 : w.cell? ⟨pc, 7, none⟩ = some (.slice none 0 0) := by rw [cells_of hb 7]; simpa using h7
  have HC : Hid (∀ j, j < 6 → w.cell? ⟨pc, j, none⟩ = some (.int .u64 (f j))) := fun j hj' => by rw [cells_of hb j]; simpa using hj j hj'
  have HE : Hid (Ent n f D) := hE
  have HB : Hid (∀ j, j < 6 → f j < 18446744073709551616) := hbd
  have HNE : Hid (∀ j, j < n → f j ≠ 0) := hne
  have hk := key32_eq kz
  have hkl := key32_lt kz
  have hnI : (n : Int) ≤ 6 := by omega
  clear hb h6 h7 hj hE hbd hne hc
  have hnil := nil_yes
  go_enter Try.func30, Try.ntmps30
  go_wp2_with fail
  go_quiet (fail)
  go_wp2_with fail
  go_loopw [27] (fun t wr => ∃ (j q : Nat), j ≤ n ∧ t = .int .i64 j ∧ (∀ i, i < j → f i / 4294967296 ≠ key32 kz) ∧ wr = w.drewN q) (fun t _ => n - (intOf t).toNat)
  case atStart => exact ⟨0, _, Nat.zero_le _, rfl, fun i hi => by omega, rfl⟩
  case round =>
    obtain ⟨j, q, hj, rfl, ha, rfl⟩ := hrel
    have HA : Hid (∀ i, i < j → f i / 4294967296 ≠ key32 kz) := ha
    clear ha
    by_cases hjn : j < n
    · have e1 := HC.out j (by omega)
      have hb1 := HB.out j (by omega)
      have hn1 := HNE.out j hjn
      have hjI : (j : Int) < (n : Int) := by omega
      obtain ⟨s, hs⟩ : ∃ s, s = f j := ⟨_, rfl⟩
      have HSf : Hid (s = f j) := hs
      rw [← hs] at e1 hb1 hn1
      clear hs
      by_cases hq : s / 4294967296 = key32 kz
      · have hq' : ((s : Int) / 4294967296 == ((key32 kz : Nat) : Int)) = true := by rw [beq_iff_eq]; omega
        go_wp2_with fail
        go_ret
        refine ⟨?_, q, rfl⟩
        rw [HE.out.at_ hjn (by rw [← HSf.out]; exact hn1) (by rw [← HSf.out]; exact hq), ← HSf.out]
        rfl
      · have hq' : ((s : Int) / 4294967296 == ((key32 kz : Nat) : Int)) = false := by rw [beq_eq_false_iff_ne]; omega
        go_wp2_with fail
        go_roundw
        case rel =>
          refine ⟨j + 1, q, by omega, by go_num, fun i hi => ?_, rfl⟩
          by_cases e : i = j
          · subst e; rw [← HSf.out]; exact hq
          · exact HA.out i (by omega)
        case measure => simp [intOf]; omega
    · go_wp2_with fail
      go_ret
      refine ⟨?_, q, rfl⟩
      rw [HE.out.absent (fun i hi => HA.out i (by omega))]
      rfl

/-- home, then seek -/
theorem seek_home (pc g M key : Nat) (f : Nat → Nat) (w : World) (hr : Rd w pc g M f) (hk : key < 4294967296) :
    Calls Try.prog 36 #[.pointer (some ⟨pc, 7, none⟩), .int .u32 key, .int .i64 (home M key)] w fun e w' => ∃ (i : Nat) (b : Bool), e = .returned (.tuple #[.int .i64 i, .bool b]) ∧ w' = w ∧ Sk M f (home M key) key i ∧ ((b = true ∧ f i ≠ 0 ∧ f i / 4294967296 = key) ∨ (b = false ∧ f i = 0)) :=
  seek_any pc g M key _ f w hr hk (home_lt (by have := hr.pow.le; omega) _)

set_option maxRecDepth 100000 in
set_option maxHeartbeats 1000000 in
theorem get_big (pc : Nat) (kz : Int) (xs : List Value) (D : Nat → Nat) (g M n : Nat) (f : Nat → Nat) (w : World) (ht : TabAt w pc xs g M f n) (hT : Tbl M (home M) f D) :
    Calls Try.prog 30 #[.pointer (some ⟨pc, 0, none⟩), .int .i32 kz] w fun e w' => e = .returned (.int .u32 (D (key32 kz))) ∧ ∃ q, w' = w.drewN q := by
  have hl := ht.pow.le
  have c7 := ht.c7
  have hk := key32_eq kz
  have hkl := key32_lt kz
  have HT : Hid (TabAt w pc xs g M f n) := ht
  have HTb : Hid (Tbl M (home M) f D) := hT
  have HH : Hid (Calls Try.prog 37 #[.pointer (some ⟨pc, 7, none⟩), .int .u32 (kz % 4294967296)] w.drew fun e w' => e = .returned (.int .i64 (home M (key32 kz))) ∧ w' = w.drew) := by
    rw [hk]; exact home_any pc M (key32 kz) g w.drew ht.pow c7 hkl
  have HV : Hid (Calls Try.prog 36 #[.pointer (some ⟨pc, 7, none⟩), .int .u32 (kz % 4294967296), .int .i64 (home M (key32 kz))] w.drew fun e w' => ∃ (i : Nat) (b : Bool), e = .returned (.tuple #[.int .i64 i, .bool b]) ∧ w' = w.drew ∧ Sk M f (home M (key32 kz)) (key32 kz) i ∧ ((b = true ∧ f i ≠ 0 ∧ f i / 4294967296 = key32 kz) ∨ (b = false ∧ f i = 0))) := by
    rw [hk]; exact seek_home pc g M (key32 kz) f w.drew ht.rd.drew hkl
  have hnil := nil_no
  clear ht hT hk
  go_enter Try.func30, Try.ntmps30
  go_wp2_with fail
  go_region_held3 (fun x => True) (trivial) (first | (go_at_call 37; refine HH.out.mono ?_; rintro e wq ⟨rfl, hwq⟩; subst hwq) | (go_at_call 36; refine HV.out.mono ?_; rintro e wq ⟨i, b, rfl, hwq, hsk, hor⟩; subst hwq))
  have HOR : Hid ((b = true ∧ f i ≠ 0 ∧ f i / 4294967296 = key32 kz) ∨ (b = false ∧ f i = 0)) := hor
  have HSK : Hid (Sk M f (home M (key32 kz)) (key32 kz) i) := hsk
  have hi := hsk.1
  clear hor hsk
  cases b with
  | false =>
    have h0 : f i = 0 := by rcases HOR.out with h | h; exact absurd h.1 (by simp); exact h.2
    have HD : Hid (D (key32 kz) = 0) := HSK.out.none HTb.out (home_lt (by omega) _) h0
    clear h0 HOR HSK
    go_wp2_with fail
    go_ret
    refine ⟨?_, 1, rfl⟩
    rw [HD.out]
    rfl
  | true =>
    have h0 : f i ≠ 0 ∧ f i / 4294967296 = key32 kz := by rcases HOR.out with h | h; exact h.2; exact absurd h.1 (by simp)
    have HD : Hid (D (key32 kz) = f i % 4294967296) := HTb.out.toEnt.at_ hi h0.1 h0.2
    have e1 := HT.out.slot hi
    have hiI : (i : Int) < (M : Int) := by omega
    have hb1 := HT.out.bnd i hi
    clear h0 HOR HSK
    obtain ⟨s, hs⟩ : ∃ s, s = f i := ⟨_, rfl⟩
    have HSf : Hid (s = f i) := hs
    rw [← hs] at e1 hb1
    clear hs
    go_wp2_with fail
    go_ret
    refine ⟨?_, 1, rfl⟩
    rw [HD.out, ← HSf.out]
    rfl

theorem get_any (pc B : Nat) (kz : Int) (xs : List Value) (D : Nat → Nat) (c : Nat) (w : World) (h : NM w B pc xs D c) :
    Calls Try.prog 30 #[.pointer (some ⟨pc, 0, none⟩), .int .i32 kz] w fun e w' => e = .returned (.int .u32 (D (key32 kz))) ∧ ∃ q, w' = w.drewN q := by
  rcases h.st with hs | ⟨g, M, f, n, ht, hT, _⟩
  · exact get_small pc kz xs D c w h.blk hs
  · exact get_big pc kz xs D g M n f w ht hT

end Go.Proofs.Qxb6616938a.A
