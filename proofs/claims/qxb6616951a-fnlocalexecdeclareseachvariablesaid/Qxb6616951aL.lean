import Derived.Test.Qxb6616951aK
import Derived.LaidEqlPtr
namespace Go.Proofs.Qxb6616951a.A
open Go.ChangeShapes Go.WideShapes Go.ChangeAt Go.RowKit
set_option linter.unusedVariables false

theorem sz20 : (Try.prog.info? 20).map (·.size) = some 1 := by kernel_rfl

theorem frame_src {w : World} {gs n : Nat} {xs : List Value} (hr : IsRow w gs xs) (hl : xs.length = n) (h1 : ∀ u ∈ xs, u.oneCell' = true) : InS w (some ⟨gs, 0, none⟩) gs 0 n xs :=
  ⟨by simp, fun _ => rfl, fun _ => lt_of_block hr, fun i u hi => by rw [Nat.zero_add, cells_of hr i]; simpa using hi, h1⟩

set_option maxRecDepth 100000 in
theorem copyFrame_any (pf gs n : Nat) (l : Int) (xs : List Value) (w : World) (hf : IsFr w pf (.slice (some ⟨gs, 0, none⟩) n n) l) (hr : IsRow w gs xs) (hl : xs.length = n) (h1 : ∀ u ∈ xs, u.oneCell' = true) (hn : n ≤ 4096) :
    Calls Try.prog 21 #[.pointer (some ⟨pf, 0, none⟩)] w fun e w' => ∃ pq gq, e = .returned (.pointer (some ⟨pq, 0, none⟩)) ∧ IsFr w' pq (.slice (some ⟨gq, 0, none⟩) n n) l ∧ IsRow w' gq xs ∧ w.heap.size ≤ pq ∧ w.heap.size ≤ gq ∧ Kept [] w w' := by
  have hmk := run_make_row' (P := Try.prog) 63 20 .nilIface 16 Try.underlying63 info20 rfl .i64 .i64 n (by omega) (by omega)
  have hpf : pf < w.heap.size := lt_of_block hf
  have c1 : w.cell? ⟨pf, 1, none⟩ = some (.slice (some ⟨gs, 0, none⟩) n n) := cells_of hf 1
  obtain ⟨w2, hcp, hrw, hkp⟩ := copied Try.underlying63 sz20 (frame_src hr hl h1) .nilIface 3
  rw [hl] at hcp
  have c4 : w2.cell? ⟨pf, 4, none⟩ = some (.int .i64 l) := hkp.cell (p := ⟨pf, 4, none⟩) (cells_of hf 4) (by simp)
  have HRW : Hid (Rw w2 w.heap.size 20 xs) := hrw
  have HKP : Hid (Kept [] w w2) := hkp
  clear hrw hkp hf hr
  go_enter Try.func21, Try.ntmps21
  go_wp2_with fail
  go_ret
  refine ⟨w2.heap.size, w.heap.size, rfl, heap_alloc_new w2 _, ?_, HKP.out.size, Nat.le_refl _, HKP.out.alloc _⟩
  unfold IsRow
  rw [Below.heap_alloc _ _ _ (lt_of_block HRW.out)]
  exact HRW.out

set_option maxRecDepth 100000 in
theorem sameCell_any (pf gs pq gq n j c1 c2 : Nat) (l l' : Int) (xs ys : List Value) (w : World) (hf : IsFr w pf (.slice (some ⟨gs, 0, none⟩) n n) l) (hr : IsRow w gs xs) (hf' : IsFr w pq (.slice (some ⟨gq, 0, none⟩) n n) l') (hr' : IsRow w gq ys) (hj : j < n)
    (h1 : xs[j]? = some (.iface 69 (.pointer (some ⟨c1, 0, none⟩)))) (h2 : ys[j]? = some (.iface 69 (.pointer (some ⟨c2, 0, none⟩)))) (hne : c1 ≠ c2) (hc1 : IsCell w c1) (hc2 : IsCell w c2) :
    Calls Try.prog 22 #[.pointer (some ⟨pf, 0, none⟩), .int .i64 j, .pointer (some ⟨pq, 0, none⟩), .int .i64 j] w fun e w' => e = .returned (.bool false) ∧ w' = w := by
  have t3 := ta_pp
  have a1 : w.cell? ⟨pf, 1, none⟩ = some (.slice (some ⟨gs, 0, none⟩) n n) := cells_of hf 1
  have a2 : w.cell? ⟨pq, 1, none⟩ = some (.slice (some ⟨gq, 0, none⟩) n n) := cells_of hf' 1
  have a3 : w.cell? ⟨gs, j, none⟩ = some (.iface 69 (.pointer (some ⟨c1, 0, none⟩))) := by rw [cells_of hr j]; simpa using h1
  have a4 : w.cell? ⟨gq, j, none⟩ = some (.iface 69 (.pointer (some ⟨c2, 0, none⟩))) := by rw [cells_of hr' j]; simpa using h2
  have hjI : (j : Int) < (n : Int) := by omega
  obtain ⟨i71, hi71, hz71⟩ : ∃ i, Try.prog.info? 71 = some i ∧ i.size ≠ 0 := by
    have h : (Try.prog.info? 71).map (·.size) = some 1 := by kernel_rfl
    obtain ⟨i, h1, h2⟩ := Option.map_eq_some_iff.1 h
    exact ⟨i, h1, by omega⟩
  have heq := run_eql_ptr_other (P := Try.prog) w (a := ⟨c1, 0, none⟩) (b := ⟨c2, 0, none⟩) Try.underlying69 hi71 hz71 (by intro e; injection e with e; exact hne e) hc1 hc2
  clear hf hr hf' hr' h1 h2 hc1 hc2 hi71 hz71
  go_enter Try.func22, Try.ntmps22
  go_wp2_with fail
  go_ret
  exact ⟨rfl, rfl⟩

end Go.Proofs.Qxb6616951a.A
