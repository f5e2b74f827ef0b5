import Derived.Test.Qxb6616951aRows
import Derived.Test.Qxb6616951aN
import Derived.Test.Qxb6616951aOpen
import Derived.WalkKit
import Derived.ProofKit
import Derived.OpenShut
import Derived.ShutString
import Derived.ChangeOld
import Derived.Below
import Derived.Laws.Cover2
namespace Go.Proofs.Qxb6616951a.fnLocalExecDeclaresEachVariable
open Go.ChangeShapes Go.WideShapes Go.ChangeAt Go.RowKit
set_option linter.unusedVariables false

theorem own : ownKnob Try.prog.godebug = none := by kernel_rfl
theorem laidOut : laidOutB Try.prog = true := by kernel_rfl

theorem law (line cost ns : Int) (x : Nat) (a a' : Option Addr) (b off c b' off' c' : Nat) (zs : List Int) (bs : List Bool) (w : World)
    (h1 : A.InS w a b off c (zs.map (.int .i64))) (h2 : A.InS w a' b' off' c' (bs.map .bool)) (hz : zs.length ≤ 9223372036854775807) (hb : bs.length ≤ 9223372036854775807) (hc1 : -9223372036854775808 ≤ cost) (hc2 : cost ≤ 9223372036854775807) :
    Calls Try.prog 5 #[.int .i64 line, .int .i64 cost, .slice a zs.length c, .slice a' bs.length c', .int .i64 ns, .float .f64 x] w fun e w' => e = .returned (.bool true) ∧ Below w.heap.size w w' := by
  by_cases hT : zs.length ≤ 4096 ∧ bs.length ≤ 4096 ∧ 0 ≤ ns ∧ ns ≤ 4096 ∧ bs.length = zs.length
  · obtain ⟨t1, t2, t3, t4, t5⟩ := hT
    obtain ⟨m, rfl⟩ := Int.eq_ofNat_of_zero_le t3
    exact A.law5_in line cost m x a a' b off c b' off' c' zs bs w h1 h2 t1 t2 (by omega) t5 hc1 hc2
  · exact A.law5_out line cost ns x a a' c c' zs.length bs.length w hz hb hT

set_option maxRecDepth 100000 in
theorem lifted (os : Os) (started : os.Started) (H : Type) (enc : TypeId × Value → H) :
    ReturnsInHanded {} Try.checked os 5 .any (Rows.fnLocalExecDeclaresEachVariableSpec.pre6 enc Try.prog Try.f5 Rows.fnLocalExecDeclaresEachVariableRow.domain false) (Rows.fnLocalExecDeclaresEachVariableSpec.post enc Try.prog Try.f5 false true false false) := by
  refine returnsInHanded_of_change (C := Try.checked) own started (by kernel_rfl) Try.func5
    (ChangeSpec.witness6 (enc := enc) (C := Try.checked) false ⟨#[], #[.int .i64 0, .int .i64 0, .slice none 0 0, .slice none 0 0, .int .i64 0, .float .f64 0], []⟩ 8 (by kernel_rfl) (by kernel_rfl) (by kernel_rfl) (by kernel_rfl)) ?_
  intro W base args ds gs before hval0 hW hcnd _
  have hval : ∀ (j : Nat) t v, Try.f5.params[j]? = some t → args[j]? = some v → Value.okWide Try.prog W .any base t v := hval0
  have hW' := hW
  obtain ⟨p, q, hA0, hV, rfl, hfz, hnd⟩ := hW
  have hA : DataW.TrodAll enc Try.prog W 0 (fun _ => true) true Try.f5.params.toList args.toList ds p := hA0
  rw [Try.params5] at hA hval
  obtain ⟨v0, vs0, d0, ds0, p0, q0, hargs, rfl, rfl, h0, r0⟩ := trodAll_cons hA
  obtain ⟨v1, vs1, d1, ds1, p1, q1, rfl, rfl, rfl, h1, r1⟩ := trodAll_cons r0
  obtain ⟨v2, vs2, d2, ds2, p2, q2, rfl, rfl, rfl, h2, r2⟩ := trodAll_cons r1
  obtain ⟨v3, vs3, d3, ds3, p3, q3, rfl, rfl, rfl, h3, r3⟩ := trodAll_cons r2
  obtain ⟨v4, vs4, d4, ds4, p4, q4, rfl, rfl, rfl, h4, r4⟩ := trodAll_cons r3
  obtain ⟨v5, vs5, d5, ds5, p5, q5, rfl, rfl, rfl, h5, r5⟩ := trodAll_cons r4
  obtain ⟨rfl, rfl, rfl⟩ := trodAll_nil r5
  obtain rfl : args = #[v0, v1, v2, v3, v4, v5] := by cases args; simp_all
  obtain ⟨rfl, rfl⟩ := trodVars_none hV
  obtain ⟨a3, len3, cap3, rfl⟩ := okWide_slice Try.underlying24 (hval 2 24 v2 rfl rfl)
  obtain ⟨a4, len4, cap4, rfl⟩ := okWide_slice Try.underlying25 (hval 3 25 v3 rfl rfl)
  have lt0 : ∀ x ∈ p0, x.block < W.heap.size := by obtain ⟨m, hm⟩ := h0; exact DataW.trod_lt m _ _ _ hm
  have lt1 : ∀ x ∈ p1, x.block < W.heap.size := by obtain ⟨m, hm⟩ := h1; exact DataW.trod_lt m _ _ _ hm
  have lt2 : ∀ x ∈ p2, x.block < W.heap.size := by obtain ⟨m, hm⟩ := h2; exact DataW.trod_lt m _ _ _ hm
  have lt3 : ∀ x ∈ p3, x.block < W.heap.size := by obtain ⟨m, hm⟩ := h3; exact DataW.trod_lt m _ _ _ hm
  have lt4 : ∀ x ∈ p4, x.block < W.heap.size := by obtain ⟨m, hm⟩ := h4; exact DataW.trod_lt m _ _ _ hm
  have lt5 : ∀ x ∈ p5, x.block < W.heap.size := by obtain ⟨m, hm⟩ := h5; exact DataW.trod_lt m _ _ _ hm
  obtain ⟨b3, off3, zs, hl3, hm3, in3⟩ : ∃ b off, ∃ zs : List Int, zs.length = len3 ∧ len3 ≤ 9223372036854775807 ∧ A.InS W a3 b off cap3 (zs.map (.int .i64)) := by
    obtain ⟨fuel, hf⟩ := h2
    exact A.ints_of hf
  obtain ⟨b4, off4, bs, hl4, hm4, in4⟩ : ∃ b off, ∃ zs : List Bool, zs.length = len4 ∧ len4 ≤ 9223372036854775807 ∧ A.InS W a4 b off cap4 (zs.map .bool) := by
    obtain ⟨fuel, hf⟩ := h3
    exact A.bools_of hf
  obtain ⟨x0, e0, _, _, _⟩ := open_int Try.underlying3 (hval 0 3 v0 rfl rfl) h0
  obtain ⟨x1, e1, _, _, wf1⟩ := open_int Try.underlying2 (hval 1 2 v1 rfl rfl) h1
  obtain ⟨x4, e4, _, _, _⟩ := open_int Try.underlying3 (hval 4 3 v4 rfl rfl) h4
  obtain ⟨x5, e5, _, _, _⟩ := open_float Try.underlying26 (hval 5 26 v5 rfl rfl) h5
  have hcc : -9223372036854775808 ≤ x1 ∧ x1 ≤ 9223372036854775807 := by
    have h : (decide (IntKind.i64.min ≤ x1) && decide (x1 ≤ IntKind.i64.max)) = true := wf1
    rw [Bool.and_eq_true, decide_eq_true_iff, decide_eq_true_iff] at h
    exact h
  subst e0 e1 e4 e5
  clear hA0 hval0
  subst hl3 hl4
  refine (law x0 x1 x4 x5 a3 a4 b3 off3 cap3 b4 off4 cap4 zs bs W in3 in4 hm3 hm4 hcc.1 hcc.2).mono fun e W' ⟨he, bel⟩ => ?_
  subst he
  exact ⟨_, rfl, _, _, _, [], _, [], hW', trodAll_mk1 (shut_bool Try.underlying4 _),
    (trodAll_cons_mk (Below.trod laidOut (by kernel_rfl) (of_decide_eq_true (by kernel_rfl)) h0 bel lt0)
    (trodAll_cons_mk (Below.trod laidOut (by kernel_rfl) (of_decide_eq_true (by kernel_rfl)) h1 bel lt1)
    (trodAll_cons_mk (Below.trod laidOut (by kernel_rfl) (of_decide_eq_true (by kernel_rfl)) h2 bel lt2)
    (trodAll_cons_mk (Below.trod laidOut (by kernel_rfl) (of_decide_eq_true (by kernel_rfl)) h3 bel lt3)
    (trodAll_cons_mk (Below.trod laidOut (by kernel_rfl) (of_decide_eq_true (by kernel_rfl)) h4 bel lt4)
    (trodAll_cons_mk (Below.trod laidOut (by kernel_rfl) (of_decide_eq_true (by kernel_rfl)) h5 bel lt5) trodAll_mk0)))))), rfl, bel.frame _, fun h => by cases h⟩

theorem over : Rows.fnLocalExecDeclaresEachVariableRow.holds Try.pinned (OpenSpec.ofChange Rows.fnLocalExecDeclaresEachVariableSpec) :=
  OpenClaim.holds_of_wide 5 Try.f5 rfl rfl rfl rfl rfl rfl rfl ⟨rfl, rfl, rfl, rfl, rfl⟩ rfl rfl rfl rfl rfl (by kernel_rfl) Try.func5 (by kernel_rfl)
    (of_decide_eq_true (by kernel_rfl)) (by unfold Func.isWrapper; first | (rw [if_pos (by decide +kernel)]; kernel_rfl) | (rw [if_neg (by decide +kernel)]; exact ⟨rfl, rfl⟩))
    (fun os started H enc _ => lifted os started H enc)

theorem proved : Rows.FnLocalExecDeclaresEachVariableSaid := over
end Go.Proofs.Qxb6616951a.fnLocalExecDeclaresEachVariable
