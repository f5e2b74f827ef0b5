import Derived.Test.Qxb6616951aG
import Derived.Laws.CopyOwn
namespace Go.Proofs.Qxb6616951a.A
open Go.ChangeShapes Go.WideShapes Go.ChangeAt Go.RowKit
set_option linter.unusedVariables false

/-- a slice that came in: its elements as cells -/
structure InS (w : World) (a : Option Addr) (b off c : Nat) (us : List Value) : Prop where
  nil : a = none → us = [] ∧ c = 0
  at_ : 0 < us.length → a = some ⟨b, off, none⟩
  lt : 0 < us.length → b < w.heap.size
  cells : ∀ (i : Nat) (u : Value), us[i]? = some u → w.cell? ⟨b, off + i, none⟩ = some u
  one : ∀ u ∈ us, u.oneCell' = true

/-- a slice of our own, or a nil one -/
structure OwnS (w : World) (B : Nat) (a : Option Addr) (g c : Nat) (us : List Value) : Prop where
  at_ : 0 < us.length → a = some ⟨g, 0, none⟩
  cells : ∀ (i : Nat) (u : Value), us[i]? = some u → w.cell? ⟨g, i, none⟩ = some u
  le : us.length ≤ c
  cle : c ≤ 9223372036854775807
  nil : a = none → c = 0

theorem OwnS.kept {w w' : World} {B : Nat} {a : Option Addr} {g c : Nat} {us : List Value} (h : OwnS w B a g c us) (k : Kept [] w w') : OwnS w' B a g c us :=
  ⟨h.at_, fun i u hi => k.cell (h.cells i u hi) (by simp), h.le, h.cle, h.nil⟩

theorem made_copy (z : Value) (us : List Value) : splice (List.replicate us.length z) 0 us = us := by
  simp [splice]

theorem Kept.setRow {S : List Nat} {a b : World} (h : Kept S a b) {g : Nat} (hg : a.heap.size ≤ g) (cs : Array Value) : Kept S a (b.setRow g cs) :=
  ⟨h.os, h.tape, h.output, by simp [World.setRow]; exact h.size, fun k hk hn => by rw [setRow_other _ _ _ _ (by omega)]; exact h.block k hk hn⟩

theorem InS.kept {w w' : World} {a : Option Addr} {b off c : Nat} {us : List Value} (h : InS w a b off c us) (k : Kept [] w w') : InS w' a b off c us :=
  ⟨h.nil, h.at_, fun h0 => Nat.lt_of_lt_of_le (h.lt h0) k.size, fun i u hi => k.cell (h.cells i u hi) (by simp), h.one⟩

/-- 'c := make([]T, len(s)); copy(c, s)' -/
theorem copied {T t : TypeId} {w : World} {a : Option Addr} {b off c : Nat} {us : List Value} (hT : Try.prog.underlying T = some (.slice t)) (hs : (Try.prog.info? t).map (·.size) = some 1) (h : InS w a b off c us) (z : Value) (ty : TypeId) :
    ∃ w2, (Builtin.copy_ #[T, T] ty #[.slice (some ⟨w.heap.size, 0, none⟩) us.length us.length, .slice a us.length c]).run Try.prog (w.alloc (.cells (madeCells #[z] us.length) t)) = .ok (.int .i64 us.length) w2 ∧ Rw w2 w.heap.size t us ∧ Kept [] w w2 := by
  have hg := heap_alloc_new w (.cells (madeCells #[z] us.length) t)
  by_cases h0 : us.length = 0
  · obtain rfl : us = [] := List.eq_nil_of_length_eq_zero h0
    refine ⟨_, run_copy_none (P := Try.prog) _ T T ty t _ _ _ _ _ _ hT hs (by simp), ?_, (Kept.refl _ _).alloc _⟩
    unfold Rw
    rw [hg, made_list]
    simp
  · have ha := h.at_ (by omega)
    have hb := h.lt (by omega)
    subst ha
    have hr := run_copy_row (P := Try.prog) (w.alloc (.cells (madeCells #[z] us.length) t)) T T ty t w.heap.size 0 us.length us.length ⟨b, off, none⟩ us.length c _ t us hT hs hg (by simp)
      (fun j v hj => by rw [add_plain, World.cell?_alloc_past _ _ _ hb]; exact h.cells j v hj) (by simp [made_list]) h.one
    refine ⟨_, hr, ?_, ((Kept.refl _ _).alloc _).setRow (Nat.le_refl _) _⟩
    unfold Rw
    rw [setRow_heap _ _ _ _ t (0, 0) hg]
    simp [made_list]

theorem OwnS.of {w : World} {g t : Nat} {us : List Value} (h : Rw w g t us) (hl : us.length ≤ 9223372036854775807) : OwnS w 0 (some ⟨g, 0, none⟩) g us.length us :=
  ⟨fun _ => rfl, fun i u hi => by rw [cells_of h i]; simpa using hi, Nat.le_refl _, hl, by simp⟩

set_option maxRecDepth 100000 in
set_option maxHeartbeats 1000000 in
theorem law4_out (line c1 c2 cut ns : Int) (x : Nat) (a a' : Option Addr) (b off c b' off' c' : Nat) (zs : List Int) (bs : List Bool) (w : World)
    (h1 : InS w a b off c (zs.map (.int .i64))) (h2 : InS w a' b' off' c' (bs.map .bool)) (hz : zs.length ≤ 9223372036854775807) (hb : bs.length ≤ 9223372036854775807)
    (hT : ¬ (zs.length ≤ 4096 ∧ bs.length ≤ 4096 ∧ 0 ≤ ns ∧ ns ≤ 4096 ∧ bs.length = zs.length ∧ 0 ≤ cut ∧ cut ≤ zs.length)) :
    Calls Try.prog 4 #[.int .i64 line, .int .i64 c1, .int .i64 c2, .slice a zs.length c, .slice a' bs.length c', .int .i64 cut, .int .i64 ns, .float .f64 x] w fun e w' => e = .returned (.bool true) ∧ Below w.heap.size w w' := by
  have HB : Hid (Calls Try.prog 10 #[.int .i64 line, .int .i64 c1, .int .i64 c2, .slice a zs.length c, .slice a' bs.length c', .int .i64 cut, .int .i64 ns, .float .f64 x] w fun e w' => (∃ r, e = .returned (.bool r)) ∧ w' = w) := bytes10_any _ _ _ _ _ _ a a' _ c _ c' w hz hb
  have H1 : Hid (InS w a b off c (zs.map (.int .i64))) := h1
  have H2 : Hid (InS w a' b' off' c' (bs.map .bool)) := h2
  clear h1 h2
  go_enter Try.func4, Try.ntmps4
  go_wp2_with fail
  refine HB.out.mono ?_
  rintro e w' ⟨⟨r, rfl⟩, rfl⟩
  cases r
  · go_wp2_with fail
    go_ret
    exact ⟨rfl, Below.refl _ _⟩
  by_cases q1 : 4096 < zs.length
  · go_wp2_with fail
    go_ret
    exact ⟨rfl, Below.refl _ _⟩
  by_cases q2 : 4096 < bs.length
  · go_wp2_with fail
    go_ret
    exact ⟨rfl, Below.refl _ _⟩
  by_cases q3 : ns < 0
  · go_wp2_with fail
    go_ret
    exact ⟨rfl, Below.refl _ _⟩
  by_cases q4 : 4096 < ns
  · go_wp2_with fail
    go_ret
    exact ⟨rfl, Below.refl _ _⟩
  by_cases q5 : (bs.length : Int) = zs.length
  · have q5' : ((bs.length : Int) != (zs.length : Int)) = false := by rw [bne_eq_false_iff_eq]; omega
    have HQ : Hid ((bs.length : Int) = zs.length) := q5
    clear q5
    by_cases q6 : cut < 0
    · go_wp2_with fail
      go_ret
      exact ⟨rfl, Below.refl _ _⟩
    · have q7 : (zs.length : Int) < cut := by have := HQ.out; omega
      go_wp2_with fail
      go_ret
      exact ⟨rfl, Below.refl _ _⟩
  · have q5' : ((bs.length : Int) != (zs.length : Int)) = true := by rw [bne_iff_ne]; exact q5
    go_wp2_with fail
    go_ret
    exact ⟨rfl, Below.refl _ _⟩

end Go.Proofs.Qxb6616951a.A
