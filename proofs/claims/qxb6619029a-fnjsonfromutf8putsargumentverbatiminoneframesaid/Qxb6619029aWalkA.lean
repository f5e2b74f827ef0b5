import Derived.Test.Qxb6619029aRows
import Derived.WalkKit
import Derived.ProofKit
import Derived.OpenShut
import Derived.ShutString
import Derived.Outline
import Derived.Deep.QuietTactic
import Derived.BigQuiet
namespace Go.Proofs.Qxb6619029a.A
open Go.ChangeShapes Go.WideShapes Go.ChangeAt Go.RowKit
set_option linter.unusedVariables false

def pre : ByteArray := ⟨#[40, 99, 111, 110, 118, 101, 114, 116, 95, 102, 114, 111, 109, 40]⟩
def suf : ByteArray := ⟨#[44, 32, 39, 85, 84, 70, 56, 39, 41, 32, 99, 111, 108, 108, 97, 116, 101, 32, 34, 100, 101, 102, 97, 117, 108, 116, 34, 41]⟩
def jsn : ByteArray := ⟨#[58, 58, 106, 115, 111, 110]⟩
def fs (a : ByteArray) : ByteArray := pre ++ a ++ suf
def fr (a : ByteArray) : ByteArray := fs a ++ jsn

theorem pre_size : pre.size = 14 := rfl
theorem suf_size : suf.size = 28 := rfl
theorem jsn_size : jsn.size = 6 := rfl
theorem fs_size (a : ByteArray) : (fs a).size = a.size + 42 := by
  simp only [fs, ByteArray.size_append, pre_size, suf_size]; omega
theorem fr_size (a : ByteArray) : (fr a).size = a.size + 48 := by
  simp only [fr, ByteArray.size_append, fs_size, jsn_size]

theorem from_any (a : ByteArray) (w : World) (h : a.size ≤ 65536) :
    Calls Try.prog 8 #[.string a] w fun e w' => e = .returned (.string (fs a)) ∧ w' = w := by
  go_enter Try.func8, Try.ntmps8
  go_wp2
  go_ret
  exact ⟨rfl, rfl⟩

theorem json_any (a : ByteArray) (w : World) (h : a.size ≤ 65536) :
    Calls Try.prog 7 #[.string a] w fun e w' => e = .returned (.string (fr a)) ∧ w' = w := by
  have hs : (fs a).size ≤ 65600 := by rw [fs_size]; omega
  go_enter Try.func7, Try.ntmps7
  go_wp2_with (go_at_call 8; refine (from_any _ _ h).mono ?_; rintro e w' ⟨rfl, rfl⟩)
  go_ret
  exact ⟨rfl, rfl⟩

theorem zz_any (a : ByteArray) (w : World) (h : a.size ≤ 65536) :
    Calls Try.prog 5 #[.string a] w fun e w' => e = .returned (.string (fr a)) ∧ w' = w := by
  go_enter Try.func5, Try.ntmps5
  go_wp2_with (go_at_call 7; refine (json_any _ _ h).mono ?_; rintro e w' ⟨rfl, rfl⟩)
  go_ret
  exact ⟨rfl, rfl⟩

def bytesB (a b : ByteArray) : Bool := decide (a.size + b.size ≤ 1048576)
theorem ret_bool {a b : Bool} (h : a = b) : Ending.returned (.bool a) = .returned (.bool b) := by rw [h]

theorem bytes_any (a b : ByteArray) (w : World) (h1 : a.size ≤ maxLen) (h2 : b.size ≤ maxLen) :
    Calls Try.prog 4 #[.string a, .string b] w fun e w' => e = .returned (.bool (bytesB a b)) ∧ w' = w := by
  unfold maxLen at h1 h2
  go_enter Try.func4, Try.ntmps4
  go_wp2
  all_goals (go_ret; exact ⟨ret_bool (by unfold bytesB; symm; simp; omega), rfl⟩)

/-- what lawFramedAt answers -/
def framed (e : ByteArray) (k : Nat) (x f : ByteArray) : Bool :=
  (f.extract 0 k).toList == (e.extract 0 k).toList && ((f.extract k (k + x.size)).toList == x.toList && (f.extract (k + x.size) f.size).toList == (e.extract k e.size).toList)

theorem framed_any (e x f : ByteArray) (k : Nat) (w : World) (hk : k ≤ e.size) (hf : f.size = e.size + x.size) (he : e.size ≤ 100) (hx : x.size ≤ 65536) :
    Calls Try.prog 6 #[.string e, .int .i64 k, .string x, .string f] w fun e' w' => e' = .returned (.bool (framed e k x f)) ∧ ∃ n, w' = w.drewN n := by
  have hff : f.size ≤ 70000 := by omega
  have hn : ((f.size : Int) != (e.size : Int) + (x.size : Int)) = false := by
    rw [bne_eq_false_iff_eq]; omega
  have hkf' : k ≤ f.size := by omega
  obtain ⟨m, hm⟩ : ∃ m, m = k + x.size := ⟨_, rfl⟩
  have hmk : k ≤ m := by omega
  have hmf : m ≤ f.size := by omega
  have hwr : IntKind.i64.wrap ((k : Int) + (x.size : Int)) = (m : Int) := by
    rw [show ((k : Int) + (x.size : Int)) = (m : Int) from by omega]
    exact IntWalk.i64_in _ (by omega)
  have HM : Hid (m = k + x.size) := hm
  clear hf hm
  cases h1 : ((f.extract 0 k).toList == (e.extract 0 k).toList)
  · have HF : Hid (framed e k x f = false) := by show _ = _; rw [framed, h1]; rfl
    go_enter Try.func6, Try.ntmps6
    go_wp2
    go_quiet (fail)
    go_wp2
    go_ret
    exact ⟨ret_bool HF.out.symm, _, rfl⟩
  · cases h2 : ((f.extract k m).toList == x.toList)
    · have HF : Hid (framed e k x f = false) := by show _ = _; rw [framed, ← HM.out, h1, h2]; rfl
      go_enter Try.func6, Try.ntmps6
      go_wp2
      go_quiet (fail)
      go_wp2
      go_ret
      exact ⟨ret_bool HF.out.symm, _, rfl⟩
    · have HF : Hid (framed e k x f = ((f.extract m f.size).toList == (e.extract k e.size).toList)) := by show _ = _; rw [framed, ← HM.out, h1, h2]; rfl
      go_enter Try.func6, Try.ntmps6
      go_wp2
      go_quiet (fail)
      go_wp2
      go_ret
      exact ⟨ret_bool HF.out.symm, _, rfl⟩

end Go.Proofs.Qxb6619029a.A
