import Derived.Test.Qxb6616951aC
import Derived.Deep.OwnRows
import Derived.Laws.Cover2
namespace Go.Proofs.Qxb6616951a.A
open Go.ChangeShapes Go.WideShapes Go.ChangeAt Go.RowKit
set_option linter.unusedVariables false

def Rw (w : World) (g : Nat) (t : TypeId) (xs : List Value) : Prop := w.heap[g]? = some (.cells xs.toArray t (0, 0))

theorem zzexec_any (p gv ps pf gs m : Nat) (line cost n l0 : Int) (vs : Vs) (xs0 : List Value) (w : World) (hx : Ex w p gv ps pf gs m line cost n l0 vs xs0) :
    Calls Try.prog 14 #[.pointer (some ⟨p, 0, none⟩), .pointer (some ⟨ps, 0, none⟩), .pointer (some ⟨pf, 0, none⟩)] w fun e w' => e = .returned (.int .i64 0) ∧
      ∃ xs, Ex w' p gv ps pf gs m line cost (wrap64 (n + cost)) line vs xs ∧ Slots w' w.heap.size vs xs0 xs ∧ Kept [ps, pf, gs] w w' := by
  have HC : Hid (Calls Try.prog 27 #[.pointer (some ⟨p, 0, none⟩), .pointer (some ⟨ps, 0, none⟩), .pointer (some ⟨pf, 0, none⟩)] w fun e w' => e = .returned (.int .i64 0) ∧
      ∃ xs, Ex w' p gv ps pf gs m line cost (wrap64 (n + cost)) line vs xs ∧ Slots w' w.heap.size vs xs0 xs ∧ Kept [ps, pf, gs] w w') := exec_any p gv ps pf gs m line cost n l0 vs xs0 w hx
  clear hx
  go_enter Try.func14, Try.ntmps14
  go_wp2_with fail
  refine HC.out.mono ?_
  rintro e w' ⟨rfl, h⟩
  have H : Hid (∃ xs, Ex w' p gv ps pf gs m line cost (wrap64 (n + cost)) line vs xs ∧ Slots w' w.heap.size vs xs0 xs ∧ Kept [ps, pf, gs] w w') := h
  clear h
  go_wp2_with fail
  go_ret
  exact ⟨rfl, H.out⟩

/-- a float in an interface -/
def fv (x : Nat) : Value := .iface 26 (.float .f64 x)

theorem made_list (z : Value) (n : Nat) : madeCells #[z] n = (List.replicate n z).toArray := by
  rw [← toList_madeCells_one]

/-- k cells are u, the rest z -/
def part (u z : Value) (k n : Nat) : List Value := List.replicate k u ++ List.replicate (n - k) z
theorem part_len (u z : Value) (k n : Nat) (h : k ≤ n) : (part u z k n).length = n := by simp [part]; omega
theorem part_zero (u z : Value) (n : Nat) : part u z 0 n = List.replicate n z := by simp [part]
theorem part_full (u z : Value) (n : Nat) : part u z n n = List.replicate n u := by simp [part]
theorem part_set (u z : Value) (k n : Nat) (h : k < n) : (part u z k n).set k u = part u z (k + 1) n := by
  unfold part
  rw [List.set_append_right _ _ (by simp), show n - k = (n - (k + 1)) + 1 from by omega, List.replicate_succ]
  simp [List.replicate_succ']

set_option maxRecDepth 100000 in
theorem newFrame_any (n x : Nat) (w : World) (hn : n ≤ 4096) :
    Calls Try.prog 13 #[.int .i64 n, .float .f64 x] w fun e w' => ∃ pf gs, e = .returned (.pointer (some ⟨pf, 0, none⟩)) ∧ IsFr w' pf (.slice (some ⟨gs, 0, none⟩) n n) 0 ∧ IsRow w' gs (List.replicate n (fv x)) ∧ w.heap.size ≤ pf ∧ w.heap.size ≤ gs ∧ Kept [] w w' := by
  have hmk := run_make_row' (P := Try.prog) 63 20 .nilIface 16 Try.underlying63 info20 rfl .i64 .i64 n (by omega) (by omega)
  go_enter Try.func13, Try.ntmps13
  go_wp2_with fail
  go_loopw [11] (fun t wr => ∃ k : Nat, k ≤ n ∧ t = .int .i64 k ∧ Rw wr w.heap.size 20 (part (fv x) .nilIface k n) ∧ Kept [] w wr) (fun t _ => n - (intOf t).toNat)
  case atStart =>
    refine ⟨0, Nat.zero_le _, rfl, ?_, (Kept.refl _ _).alloc _⟩
    unfold Rw
    rw [part_zero, ← made_list]
    exact heap_alloc_new w _
  case round =>
    obtain ⟨k, hk, rfl, hr, hkp⟩ := hrel
    have HR : Hid (Rw wr w.heap.size 20 (part (fv x) .nilIface k n)) := hr
    have HK : Hid (Kept [] w wr) := hkp
    by_cases hlt : k < n
    · have e1 : ∃ v, wr.cell? ⟨w.heap.size, k, none⟩ = some v := by
        rw [cells_of hr k]
        exact ⟨_, by simp; exact List.getElem?_eq_getElem (by rw [part_len _ _ _ _ hk]; exact hlt)⟩
      obtain ⟨v, e1⟩ := e1
      have f1 : wr.frozen? ⟨w.heap.size, k, none⟩ = false := free_of hr k
      have hkI : (k : Int) < (n : Int) := by omega
      clear hr hkp
      go_wp2_with fail
      go_roundw
      case rel =>
        refine ⟨k + 1, by omega, by go_num, ?_, HK.out.setNew (Nat.le_refl _) _⟩
        unfold Rw
        rw [set_of HR.out, ← part_set _ _ _ _ hlt]
        simp [fv]
      case measure => simp [intOf]; omega
    · clear hr hkp
      have hkn : k = n := by omega
      go_wp2_with fail
      go_ret
      refine ⟨wr.heap.size, w.heap.size, rfl, ?_, ?_, HK.out.size, Nat.le_refl _, HK.out.alloc _⟩
      · exact heap_alloc_new wr _
      · have h := HR.out
        rw [hkn, part_full] at h
        unfold IsRow
        rw [Below.heap_alloc _ _ _ (lt_of_block h)]
        exact h

end Go.Proofs.Qxb6616951a.A
