import Derived.Test.Qxb6616938aRows
import Derived.Test.Qxb6616938aFA
import Derived.Test.Qxb6616938aEK
import Derived.WalkKit
import Derived.ProofKit
import Derived.OpenShut
import Derived.ShutString
import Derived.ChangeOld
import Derived.Below
import Derived.Laws.Cover2
namespace Go.Proofs.Qxb6616938a.fnChainRemoveEveryDepth
open Go.ChangeShapes Go.WideShapes Go.ChangeAt Go.RowKit
set_option linter.unusedVariables false

theorem own : ownKnob Try.prog.godebug = none := by kernel_rfl
theorem laidOut : laidOutB Try.prog = true := by kernel_rfl

set_option maxRecDepth 100000 in
theorem lifted (os : Os) (started : os.Started) (H : Type) (enc : TypeId × Value → H) :
    ReturnsInHanded {} Try.checked os 4 .any (Rows.fnChainRemoveEveryDepthSpec.pre6 enc Try.prog Try.f4 Rows.fnChainRemoveEveryDepthRow.domain false) (Rows.fnChainRemoveEveryDepthSpec.post enc Try.prog Try.f4 false true false false) := by
  refine returnsInHanded_of_change (C := Try.checked) own started (by kernel_rfl) Try.func4
    (ChangeSpec.witness6 (enc := enc) (C := Try.checked) false ⟨#[], #[.int .i64 0, .slice none 0 0, .slice none 0 0, .int .i32 0, .slice none 0 0], []⟩ 8 (by kernel_rfl) (by kernel_rfl) (by kernel_rfl) (by kernel_rfl)) ?_
  intro W base args ds gs before hval0 hW hcnd _
  have hval : ∀ (j : Nat) t v, Try.f4.params[j]? = some t → args[j]? = some v → Value.okWide Try.prog W .any base t v := hval0
  have hW' := hW
  obtain ⟨p, q, hA0, hV, rfl, hfz, hnd⟩ := hW
  have hA : DataW.TrodAll enc Try.prog W 0 (fun _ => true) true Try.f4.params.toList args.toList ds p := hA0
  rw [Try.params4] at hA hval
  obtain ⟨v0, vs0, d0, ds0, p0, q0, hargs, rfl, rfl, h0, r0⟩ := trodAll_cons hA
  obtain ⟨v1, vs1, d1, ds1, p1, q1, rfl, rfl, rfl, h1, r1⟩ := trodAll_cons r0
  obtain ⟨v2, vs2, d2, ds2, p2, q2, rfl, rfl, rfl, h2, r2⟩ := trodAll_cons r1
  obtain ⟨v3, vs3, d3, ds3, p3, q3, rfl, rfl, rfl, h3, r3⟩ := trodAll_cons r2
  obtain ⟨v4, vs4, d4, ds4, p4, q4, rfl, rfl, rfl, h4, r4⟩ := trodAll_cons r3
  obtain ⟨rfl, rfl, rfl⟩ := trodAll_nil r4
  obtain rfl : args = #[v0, v1, v2, v3, v4] := by cases args; simp_all
  obtain ⟨rfl, rfl⟩ := trodVars_none hV
  obtain ⟨a1, len1, cap1, rfl⟩ := okWide_slice Try.underlying22 (hval 1 22 v1 rfl rfl)
  obtain ⟨a2, len2, cap2, rfl⟩ := okWide_slice Try.underlying23 (hval 2 23 v2 rfl rfl)
  obtain ⟨a4, len4, cap4, rfl⟩ := okWide_slice Try.underlying28 (hval 4 28 v4 rfl rfl)
  have lt0 : ∀ x ∈ p0, x.block < W.heap.size := by obtain ⟨m, hm⟩ := h0; exact DataW.trod_lt m _ _ _ hm
  have lt1 : ∀ x ∈ p1, x.block < W.heap.size := by obtain ⟨m, hm⟩ := h1; exact DataW.trod_lt m _ _ _ hm
  have lt2 : ∀ x ∈ p2, x.block < W.heap.size := by obtain ⟨m, hm⟩ := h2; exact DataW.trod_lt m _ _ _ hm
  have lt3 : ∀ x ∈ p3, x.block < W.heap.size := by obtain ⟨m, hm⟩ := h3; exact DataW.trod_lt m _ _ _ hm
  have lt4 : ∀ x ∈ p4, x.block < W.heap.size := by obtain ⟨m, hm⟩ := h4; exact DataW.trod_lt m _ _ _ hm
  obtain ⟨ka, kb, koff, kcap, ks, ek, hks, hki⟩ : ∃ a b off cap, ∃ ks : List Int, Value.slice a1 len1 cap1 = .slice a ks.length cap ∧ A.Sl W a b off (ks.map (.int .i32)) ∧ ∀ k ∈ ks, A.I32 k := by
    obtain ⟨fuel, hf⟩ := h1
    exact A.ks_of hf
  obtain ⟨da, db, doff, dcap, dss, ed, hds, hdi⟩ : ∃ a b off cap, ∃ dss : List (List Nat), Value.slice a2 len2 cap2 = .slice a dss.length cap ∧ A.SS W a b off dss ∧ ∀ (j : Nat) (ds : List Nat), dss[j]? = some ds → ∀ x ∈ ds, x < 4294967296 := by
    obtain ⟨fuel, hf⟩ := h2
    exact A.dss_of hf
  obtain ⟨x0, e0, _, _, w0⟩ := open_int Try.underlying3 (hval 0 3 v0 rfl rfl) h0
  obtain ⟨x3, e3, i3⟩ : ∃ y : Int, v3 = .int .i32 y ∧ A.I32 y := by
    obtain ⟨x3, e3, _, _, _⟩ := open_int Try.underlying21 (hval 3 21 v3 rfl rfl) h3
    subst e3
    obtain ⟨fuel, hf⟩ := h3
    exact A.i32_of hf
  obtain ⟨qs, ⟨qa, qb, qoff, qcap, eq, hqs⟩, hqi⟩ : ∃ ds : List Nat, (∃ a b off cap, Value.slice a4 len4 cap4 = .slice a ds.length cap ∧ A.Sl W a b off (ds.map A.u32)) ∧ ∀ x ∈ ds, x < 4294967296 := by
    obtain ⟨fuel, hf⟩ := h4
    exact A.ds_of hf
  have hsup : wrap64 x0 = x0 := by
    have hw' : (decide (IntKind.i64.min ≤ x0) && decide (x0 ≤ IntKind.i64.max)) = true := w0
    rw [Bool.and_eq_true, decide_eq_true_iff, decide_eq_true_iff] at hw'
    have hw1 : (-9223372036854775808 : Int) ≤ x0 := hw'.1
    have hw2 : x0 ≤ (9223372036854775807 : Int) := hw'.2
    unfold wrap64
    omega
  subst e0 e3
  clear hA0 hval0
  injection ek with ek1 ek2 ek3
  injection ed with ed1 ed2 ed3
  injection eq with eq1 eq2 eq3
  subst ek1 ek2 ek3 ed1 ed2 ed3 eq1 eq2 eq3
  refine (A.law4 x0 _ _ _ kb koff _ db doff _ qb qoff _ ks dss x3 qs W hks hds hqs hki i3 hdi hsup).mono fun e W' ⟨he, bel⟩ => ?_
  subst he
  exact ⟨_, rfl, _, _, _, [], _, [], hW', trodAll_mk1 (shut_bool Try.underlying4 _),
    (trodAll_cons_mk (Below.trod laidOut (by kernel_rfl) (of_decide_eq_true (by kernel_rfl)) h0 bel lt0)
    (trodAll_cons_mk (Below.trod laidOut (by kernel_rfl) (of_decide_eq_true (by kernel_rfl)) h1 bel lt1)
    (trodAll_cons_mk (Below.trod laidOut (by kernel_rfl) (of_decide_eq_true (by kernel_rfl)) h2 bel lt2)
    (trodAll_cons_mk (Below.trod laidOut (by kernel_rfl) (of_decide_eq_true (by kernel_rfl)) h3 bel lt3)
    (trodAll_cons_mk (Below.trod laidOut (by kernel_rfl) (of_decide_eq_true (by kernel_rfl)) h4 bel lt4) trodAll_mk0))))), rfl, bel.frame _, fun h => by cases h⟩

theorem over : Rows.fnChainRemoveEveryDepthRow.holds Try.pinned (OpenSpec.ofChange Rows.fnChainRemoveEveryDepthSpec) :=
  OpenClaim.holds_of_wide 4 Try.f4 rfl rfl rfl rfl rfl rfl rfl ⟨rfl, rfl, rfl, rfl, rfl⟩ rfl rfl rfl rfl rfl (by kernel_rfl) Try.func4 (by kernel_rfl)
    (of_decide_eq_true (by kernel_rfl)) (by unfold Func.isWrapper; first | (rw [if_pos (by decide +kernel)]; kernel_rfl) | (rw [if_neg (by decide +kernel)]; exact ⟨rfl, rfl⟩))
    (fun os started H enc _ => lifted os started H enc)

theorem proved : Rows.FnChainRemoveEveryDepthSaid := over
end Go.Proofs.Qxb6616938a.fnChainRemoveEveryDepth
