import Derived.Test.Qxb6616951aRows
import Derived.WalkKit
import Derived.ProofKit
import Derived.Outline
import Derived.WalkSpells
import Derived.Deep.QuietTactic
import Derived.BigQuiet
import Derived.Deep.RegionHeld3
import Derived.Deep.RegionLaw
import Derived.Deep.DrawnRows
import Derived.Deep.AppendLies
import Derived.Deep.CutRange
import Derived.Lib.AppendZeros
namespace Go.Proofs.Qxb6616951a.A
open Go.ChangeShapes Go.WideShapes Go.ChangeAt Go.RowKit
set_option linter.unusedVariables false

theorem ret_bool {a b : Bool} (h : a = b) : Ending.returned (.bool a) = .returned (.bool b) := by rw [h]

theorem newState_any (w : World) :
    Calls Try.prog 12 #[.int .i64 0, .int .i64 0] w fun e w' => e = .returned (.pointer (some ⟨w.heap.size, 0, none⟩)) ∧
      w' = w.alloc (.cells #[.int .i64 0, .int .i64 0, .int .i64 0, .int .i64 0, .bool false, .pointer none, .pointer none, .pointer none, .int .i64 0, .map none, .int .u64 0] 62) := by
  go_enter Try.func12, Try.ntmps12
  go_wp2
  go_ret
  exact ⟨rfl, rfl⟩

theorem steps_any (p : Nat) (n : Int) (w : World) (h0 : w.cell? ⟨p, 2, none⟩ = some (.int .i64 n)) :
    Calls Try.prog 15 #[.pointer (some ⟨p, 0, none⟩)] w fun e w' => e = .returned (.int .i64 n) ∧ w' = w := by
  go_enter Try.func15, Try.ntmps15
  go_wp2
  go_ret
  exact ⟨rfl, rfl⟩

theorem line_any (p : Nat) (n : Int) (w : World) (h0 : w.cell? ⟨p, 4, none⟩ = some (.int .i64 n)) :
    Calls Try.prog 16 #[.pointer (some ⟨p, 0, none⟩)] w fun e w' => e = .returned (.int .i64 n) ∧ w' = w := by
  go_enter Try.func16, Try.ntmps16
  go_wp2
  go_ret
  exact ⟨rfl, rfl⟩

/-- the cells of a State that counts n steps -/
def stCells (n : Int) : Array Value := #[.int .i64 0, .int .i64 0, .int .i64 n, .int .i64 0, .bool false, .pointer none, .pointer none, .pointer none, .int .i64 0, .map none, .int .u64 0]
/-- the cells of a frame -/
def frCells (v : Value) (line : Int) : Array Value := #[.pointer none, v, .slice none 0 0, .slice none 0 0, .int .i64 line, .pointer none]

def IsSt (w : World) (p : Nat) (n : Int) : Prop := w.heap[p]? = some (.cells (stCells n) 62 (0, 0))
def IsFr (w : World) (p : Nat) (v : Value) (line : Int) : Prop := w.heap[p]? = some (.cells (frCells v line) 66 (0, 0))

/-- of the blocks that were there, those in S alone may have turned -/
structure Kept (S : List Nat) (w w' : World) : Prop where
  os : w'.os = w.os
  tape : w'.tape = w.tape
  output : w'.output = w.output
  size : w.heap.size ≤ w'.heap.size
  block : ∀ k, k < w.heap.size → k ∉ S → w'.heap[k]? = w.heap[k]?

theorem Kept.refl (S : List Nat) (w : World) : Kept S w w := ⟨rfl, rfl, rfl, Nat.le_refl _, fun _ _ _ => rfl⟩
theorem Kept.trans {S : List Nat} {a b c : World} (h : Kept S a b) (k : Kept S b c) : Kept S a c :=
  ⟨k.os.trans h.os, k.tape.trans h.tape, k.output.trans h.output, Nat.le_trans h.size k.size, fun i hi hs => (k.block i (Nat.lt_of_lt_of_le hi h.size) hs).trans (h.block i hi hs)⟩
theorem Kept.mono {S T : List Nat} {a b : World} (h : Kept S a b) (hs : ∀ k ∈ S, k ∈ T) : Kept T a b :=
  ⟨h.os, h.tape, h.output, h.size, fun k hk hn => h.block k hk (fun hm => hn (hs k hm))⟩
theorem Kept.drew {S : List Nat} {a b : World} (h : Kept S a b) : Kept S a b.drew := ⟨h.os, h.tape, h.output, h.size, h.block⟩
theorem Kept.drewN {S : List Nat} {a b : World} (h : Kept S a b) (n : Nat) : Kept S a (b.drewN n) := ⟨h.os, h.tape, h.output, h.size, h.block⟩
theorem Kept.alloc {S : List Nat} {a b : World} (h : Kept S a b) (o : Obj) : Kept S a (b.alloc o) :=
  h.trans ⟨rfl, rfl, rfl, by simp, fun k hk _ => Below.heap_alloc _ _ _ hk⟩
theorem Kept.setCell {S : List Nat} {a b : World} (h : Kept S a b) {p : Addr} (hp : p.block ∈ S) (u : Value) : Kept S a (b.setCell p u) :=
  h.trans ⟨rfl, rfl, rfl, by simp [World.setCell], fun k _ hn => Below.heap_setCell _ _ _ _ (fun e => hn (e ▸ hp))⟩
theorem Kept.setNew {S : List Nat} {a b : World} (h : Kept S a b) {p : Addr} (hp : a.heap.size ≤ p.block) (u : Value) : Kept S a (b.setCell p u) :=
  ⟨h.os, h.tape, h.output, by simp [World.setCell]; exact h.size, fun k hk hn => by rw [Below.heap_setCell _ _ _ _ (by omega)]; exact h.block k hk hn⟩
theorem Kept.at {S : List Nat} {a b : World} (h : Kept S a b) {k : Nat} {o : Obj} (hk : a.heap[k]? = some o) (hn : k ∉ S) : b.heap[k]? = some o :=
  (h.block k (lt_of_block hk) hn).trans hk
theorem Kept.below {S : List Nat} {a b : World} (h : Kept S a b) {B : Nat} (hB : B ≤ a.heap.size) (hs : ∀ k ∈ S, B ≤ k) : Below B a b :=
  ⟨h.os, h.tape, h.output, h.size, fun k hk => h.block k (by omega) (fun hm => by have := hs k hm; omega)⟩
theorem Kept.grown {S : List Nat} {a b c : World} {row : Option Nat} (h : Kept S a b) (hg : b.grownBy c row) (hr : ∀ k, row = some k → k ∈ S ∨ a.heap.size ≤ k) : Kept S a c :=
  ⟨hg.os.trans h.os, hg.tape.trans h.tape, hg.output.trans h.output, Nat.le_trans h.size hg.size, fun k hk hn => by
    rw [hg.block k (Nat.lt_of_lt_of_le hk h.size) (fun e => by rcases hr k e.symm with h1 | h1 <;> first | exact hn h1 | omega)]; exact h.block k hk hn⟩

theorem cells_of {w : World} {p : Nat} {cs : Array Value} {t : TypeId} (h : w.heap[p]? = some (.cells cs t (0, 0))) (i : Nat) : w.cell? ⟨p, i, none⟩ = cs[i]? := by simp [World.cell?, h]
theorem free_of {w : World} {p : Nat} {cs : Array Value} {t : TypeId} (h : w.heap[p]? = some (.cells cs t (0, 0))) (i : Nat) : w.frozen? ⟨p, i, none⟩ = false := by simp [World.frozen?, h]
theorem set_of {w : World} {p : Nat} {cs : Array Value} {t : TypeId} (h : w.heap[p]? = some (.cells cs t (0, 0))) (i : Nat) (u : Value) : (w.setCell ⟨p, i, none⟩ u).heap[p]? = some (.cells (cs.setIfInBounds i u) t (0, 0)) := by
  simp only [World.setCell, Array.getElem?_modify, if_true, h]; simp
theorem drewN_heap (w : World) (n : Nat) : (w.drewN n).heap = w.heap := rfl

theorem step_any (p : Nat) (n c : Int) (w : World) (hs : IsSt w p n) :
    Calls Try.prog 32 #[.pointer (some ⟨p, 0, none⟩), .int .i64 c] w fun e w' => e = .returned (.tuple #[]) ∧ IsSt w' p (wrap64 (n + c)) ∧ Kept [p] w w' := by
  have h0 : w.cell? ⟨p, 0, none⟩ = some (.int .i64 0) := cells_of hs 0
  have h2 : w.cell? ⟨p, 2, none⟩ = some (.int .i64 n) := cells_of hs 2
  have h4 : w.cell? ⟨p, 4, none⟩ = some (.bool false) := cells_of hs 4
  have f2 : w.frozen? ⟨p, 2, none⟩ = false := free_of hs 2
  have fin : ∀ m, IsSt ((w.setCell ⟨p, 2, none⟩ (.int .i64 (wrap64 (n + c)))).drewN m) p (wrap64 (n + c)) ∧ Kept [p] w ((w.setCell ⟨p, 2, none⟩ (.int .i64 (wrap64 (n + c)))).drewN m) := fun m =>
    ⟨by unfold IsSt; rw [drewN_heap, set_of hs]; rfl, ((Kept.refl _ _).setCell (by simp) _).drewN m⟩
  have F : Hid (∀ m, IsSt ((w.setCell ⟨p, 2, none⟩ (.int .i64 (wrap64 (n + c)))).drewN m) p (wrap64 (n + c)) ∧ Kept [p] w ((w.setCell ⟨p, 2, none⟩ (.int .i64 (wrap64 (n + c)))).drewN m)) := fin
  clear fin hs
  by_cases hd : 0 < wrap64 (n + c)
  · go_enter Try.func32, Try.ntmps32
    go_wp2
    go_quiet (fail)
    go_wp2
    go_end0
    exact ⟨rfl, F.out _⟩
  · have hd' : decide (0 < wrap64 (n + c)) = false := by simpa using hd
    go_enter Try.func32, Try.ntmps32
    go_wp2
    go_quiet (fail)
    go_wp2
    go_end0
    exact ⟨rfl, F.out _⟩

theorem begin_any (ps pf : Nat) (n c l0 line : Int) (v : Value) (w : World) (hs : IsSt w ps n) (hf : IsFr w pf v l0) :
    Calls Try.prog 28 #[.agg #[.int .i64 line, .int .i64 c], .pointer (some ⟨ps, 0, none⟩), .pointer (some ⟨pf, 0, none⟩)] w fun e w' => e = .returned (.tuple #[]) ∧ IsSt w' ps (wrap64 (n + c)) ∧ IsFr w' pf v line ∧ Kept [ps, pf] w w' := by
  have hfl : pf < w.heap.size := lt_of_block hf
  have hsl : ps < w.heap.size := lt_of_block hs
  have h4 : w.cell? ⟨pf, 4, none⟩ = some (.int .i64 l0) := cells_of hf 4
  have f4 : w.frozen? ⟨pf, 4, none⟩ = false := free_of hf 4
  have hne : ps ≠ pf := fun e => by unfold IsSt at hs; rw [e, hf] at hs; simp at hs
  have k1 : Kept [ps, pf] w ((w.setCell ⟨pf, 4, none⟩ (.int .i64 line)).alloc (.cells #[.int .i64 line, .int .i64 c] 50)) := ((Kept.refl _ _).setCell (by simp) _).alloc _
  have s1 : IsSt ((w.setCell ⟨pf, 4, none⟩ (.int .i64 line)).alloc (.cells #[.int .i64 line, .int .i64 c] 50)) ps n := by
    unfold IsSt
    rw [Below.heap_alloc _ _ _ (by simpa [World.setCell] using hsl), Below.heap_setCell _ _ _ _ hne]; exact hs
  have f1 : IsFr ((w.setCell ⟨pf, 4, none⟩ (.int .i64 line)).alloc (.cells #[.int .i64 line, .int .i64 c] 50)) pf v line := by
    unfold IsFr
    rw [Below.heap_alloc _ _ _ (by simpa [World.setCell] using hfl), set_of hf]; rfl
  have HC : Hid (Calls Try.prog 32 #[.pointer (some ⟨ps, 0, none⟩), .int .i64 c] ((w.setCell ⟨pf, 4, none⟩ (.int .i64 line)).alloc (.cells #[.int .i64 line, .int .i64 c] 50)) fun e w' => e = .returned (.tuple #[]) ∧ IsSt w' ps (wrap64 (n + c)) ∧ IsFr w' pf v line ∧ Kept [ps, pf] w w') :=
    (step_any ps n c _ s1).mono fun e w' ⟨h1, h2, h3⟩ => ⟨h1, h2, h3.at f1 (by simp; exact fun e => hne e.symm), k1.trans (h3.mono (by simp))⟩
  clear hs hf k1 s1 f1
  go_enter Try.func28, Try.ntmps28
  go_wp2_with fail
  refine HC.out.mono ?_
  rintro e w' ⟨rfl, h⟩
  have H : Hid (IsSt w' ps (wrap64 (n + c)) ∧ IsFr w' pf v line ∧ Kept [ps, pf] w w') := h
  clear h
  go_wp2_with fail
  go_end0
  exact ⟨rfl, H.out⟩

/-- a local variable's block -/
def IsVar (w : World) (b : Nat) (s : Int) (c : Bool) : Prop := w.heap[b]? = some (.cells #[.string ⟨#[118]⟩, .int .i64 s, .bool c] 48 (0, 0))
def IsCell (w : World) (b : Nat) : Prop := w.heap[b]? = some (.cells #[.nilIface] 71 (0, 0))
def IsRow (w : World) (g : Nat) (xs : List Value) : Prop := w.heap[g]? = some (.cells xs.toArray 20 (0, 0))

/-- what declare writes -/
def declV (w : World) (c : Bool) : Value := if c then .iface 69 (.pointer (some ⟨w.heap.size, 0, none⟩)) else .nilIface

theorem declare_any (pf gs b s n : Nat) (c : Bool) (l : Int) (xs : List Value) (w : World) (hf : IsFr w pf (.slice (some ⟨gs, 0, none⟩) n n) l) (hr : IsRow w gs xs) (hv : IsVar w b s c) (hxs : xs.length = n) (hsn : s < n) (hn : n ≤ 1048576) :
    Calls Try.prog 29 #[.pointer (some ⟨pf, 0, none⟩), .pointer (some ⟨b, 0, none⟩), .nilIface] w fun e w' => e = .returned (.tuple #[]) ∧ IsRow w' gs (xs.set s (declV w c)) ∧ (c = true → IsCell w' w.heap.size ∧ w.heap.size < w'.heap.size) ∧ Kept [gs] w w' := by
  have hfl : pf < w.heap.size := lt_of_block hf
  have hgl : gs < w.heap.size := lt_of_block hr
  have hbl : b < w.heap.size := lt_of_block hv
  have hne1 : gs ≠ pf := fun e => by unfold IsRow at hr; rw [e, hf] at hr; simp at hr
  have hne2 : gs ≠ b := fun e => by unfold IsRow at hr; rw [e, hv] at hr; simp at hr
  have c1 : w.cell? ⟨pf, 1, none⟩ = some (.slice (some ⟨gs, 0, none⟩) n n) := cells_of hf 1
  have b1 : w.cell? ⟨b, 1, none⟩ = some (.int .i64 s) := cells_of hv 1
  have b2 : w.cell? ⟨b, 2, none⟩ = some (.bool c) := cells_of hv 2
  obtain ⟨x0, hx0⟩ : ∃ x, w.cell? ⟨gs, s, none⟩ = some x := by
    rw [cells_of hr s]; exact ⟨_, by simp; exact List.getElem?_eq_getElem (by omega)⟩
  have fr : w.frozen? ⟨gs, s, none⟩ = false := free_of hr s
  have hsI : (s : Int) < (n : Int) := by omega
  have HR : Hid (IsRow w gs xs) := hr
  clear hf hv hr
  cases c with
  | false =>
    go_enter Try.func29, Try.ntmps29
    go_wp2
    go_region_held3 (fun w' => w'.cell? ⟨pf, 1, none⟩ = some (.slice (some ⟨gs, 0, none⟩) n n) ∧ w'.cell? ⟨b, 1, none⟩ = some (.int .i64 s)) (go_keep) (fail)
    go_wp2
    go_end0
    refine ⟨rfl, ?_, by simp, ((Kept.refl _ _).setCell (by simp) _).drew⟩
    show (w.setCell ⟨gs, s, none⟩ .nilIface).heap[gs]? = _
    rw [set_of HR.out]
    simp [declV]
  | true =>
    go_enter Try.func29, Try.ntmps29
    go_wp2
    go_region_held3 (fun w' => w'.cell? ⟨pf, 1, none⟩ = some (.slice (some ⟨gs, 0, none⟩) n n) ∧ w'.cell? ⟨b, 1, none⟩ = some (.int .i64 s)) (go_keep) (fail)
    go_wp2
    go_end0
    have hz : (w.setCell ⟨gs, s, none⟩ (.iface 69 (.pointer (some ⟨w.heap.size, 0, none⟩)))).heap.size = w.heap.size := by simp [World.setCell]
    refine ⟨rfl, ?_, fun _ => ⟨?_, ?_⟩, (((Kept.refl _ _).setCell (by simp) _).alloc _).drew⟩
    · show ((w.setCell ⟨gs, s, none⟩ (.iface 69 (.pointer (some ⟨w.heap.size, 0, none⟩)))).alloc (.cells #[.nilIface] 71)).heap[gs]? = _
      rw [Below.heap_alloc _ _ _ (by rw [hz]; exact hgl), set_of HR.out]
      simp [declV]
    · have := heap_alloc_new (w.setCell ⟨gs, s, none⟩ (.iface 69 (.pointer (some ⟨w.heap.size, 0, none⟩)))) (.cells #[.nilIface] 71)
      rw [hz] at this
      exact this
    · show w.heap.size < ((w.setCell ⟨gs, s, none⟩ (.iface 69 (.pointer (some ⟨w.heap.size, 0, none⟩)))).alloc (.cells #[.nilIface] 71)).heap.size
      simp [World.setCell]

theorem info20 : (Try.prog.info? 20).map (fun i => (i.zero, i.size, i.bytes)) = some (some .nilIface, 1, 16) := by kernel_rfl

/-- evalList of no expressions hands its dst on -/
theorem evalList_any (a1 a2 : Option Addr) (w : World) :
    Calls Try.prog 31 #[.pointer a1, .pointer a2, .slice none 0 0, .slice none 0 0] w fun e w' => e = .returned (.slice none 0 0) ∧ w' = w := by
  go_enter Try.func31, Try.ntmps31
  go_wp2
  refine wp_loop_rounds 1 ?_
  rw [rounds_succ]
  go_wp2
  go_ret
  exact ⟨rfl, rfl⟩

theorem zeros_at (n i : Nat) (h : i < n) : (Builtin.zeroCells #[Value.nilIface] n)[i]? = some .nilIface := by
  simp [Builtin.zeroCells, h, Nat.mod_one]

/-- adjust of no values to n: n nils -/
theorem adjust_any (n : Nat) (w : World) (hn : n ≤ 1048576) :
    Calls Try.prog 30 #[.slice none 0 0, .int .i64 n] w fun e w' => ∃ a c, e = .returned (.slice a n c) ∧ (0 < n → a = some ⟨w.heap.size, 0, none⟩ ∧ (∀ i, i < n → w'.cell? ⟨w.heap.size, i, none⟩ = some .nilIface) ∧ w.heap.size < w'.heap.size) ∧ Kept [] w w' := by
  by_cases h0 : n = 0
  · subst h0
    go_enter Try.func30, Try.ntmps30
    go_wp2
    go_ret
    exact ⟨_, _, rfl, by simp, Kept.refl _ _⟩
  · have hnI : (0 : Int) < (n : Int) := by omega
    obtain ⟨i0, hi, hz0, hz1, hz2⟩ := info_parts info20
    have hrun := fun ty => Lib.run_append_nil_zeros w 63 3 ty 20 i0 .nilIface .i64 .i64 Try.underlying63 Try.underlying3 hi hz0 n (by omega) (by omega) (by omega) (by rw [hz2]; omega)
    have hgc := grownCap_ge w n 0 20
    have HR : Hid (∀ ty, (Builtin.append_ #[63, 3] ty #[.slice none 0 0, .int .i64 n]).run Try.prog w = .ok (.slice (some ⟨w.heap.size, 0, none⟩) n (grownCap w n 0 20)) (w.drew.alloc (.cells (Builtin.zeroCells Value.nilIface.cells n ++ Builtin.zeroCells Value.nilIface.cells (grownCap w n 0 20 - n)) 20))) := hrun
    clear hrun hi hz0 hz1 hz2
    go_enter Try.func30, Try.ntmps30
    go_wp2_with (at_builtin; refine Lib.wpList_append_run _ rfl _ _ _ _ rfl _ _ rfl rfl _ _ (HR.out _) ?_)
    go_ret
    refine ⟨_, _, rfl, fun _ => ⟨rfl, fun i hi => ?_, ?_⟩, ?_⟩
    · show (w.alloc (.cells (Builtin.zeroCells #[.nilIface] n ++ Builtin.zeroCells #[.nilIface] (grownCap w n 0 20 - n)) 20)).cell? ⟨w.heap.size, i, none⟩ = _
      rw [cells_of (heap_alloc_new w _) i, Array.getElem?_append_left (by rw [size_zeroCells]; simpa using hi)]
      exact zeros_at n i hi
    · show w.heap.size < (w.alloc (.cells (Builtin.zeroCells #[.nilIface] n ++ Builtin.zeroCells #[.nilIface] (grownCap w n 0 20 - n)) 20)).heap.size
      simp
    · exact ((Kept.refl _ _).alloc _).drew

end Go.Proofs.Qxb6616951a.A
