import Derived.Test.Qxb6616938aAF
namespace Go
/-- the builtin copy as one step of a region that draws -/
theorem step_copy_ran {P : Program} {ops : Array Oper} {o : Oper} {a : Act} {w : World} {K : Act → World → Prop} {Q : Exit → Act → World → Prop} {E : Prop}
    (hg : o.guard = none) (s x : Operand) (t : TypeId) (hop : o.op = Op.call { callee := Callee.builtin Builtin.copy, args := #[s, x], argTypes := #[t, t] })
    (v1 v2 v : Value) (w' : World) (hs : a.eval s = v1) (hx : a.eval x = v2) (hrun : (Builtin.copy_ #[t, t] o.type #[v1, v2]).run P w = .ok v w')
    (hK : K (a.put o.dst v) w') :
    if Region.wanted o (yielded ops a.tmps) = true then Oper.wp P o a w K Q else E := by
  have hw : Region.wanted o (yielded ops a.tmps) = true := by simp [Region.wanted, hg]
  rw [if_pos hw]
  unfold Oper.wp
  simp [execOp, hop, resolve, invoke, builtin, hs, hx, hrun, Result.andThen]
  exact hK
end Go
namespace Go.Proofs.Qxb6616938a.A
open Go.ChangeShapes Go.WideShapes Go.ChangeAt Go.RowKit Go.Sort
set_option linter.unusedVariables false

/-- a deque: its buffer's numbers are vs, the first of its items at st -/
structure Dq (w : World) (pd gb n cap st : Nat) (vs : List Nat) : Prop where
  blk : Rw w pd 65 [.slice (some ⟨gb, 0, none⟩) n cap, .int .i64 st]
  row : ∃ zs, Rw w gb 24 zs
  len : vs.length = n
  cells : ∀ (j v : Nat), vs[j]? = some v → w.cell? ⟨gb, j, none⟩ = some (u32 v)
  st_le : st ≤ n
  n_le : n ≤ cap
  cap_le : cap ≤ 1099511627776

theorem Dq.c0 {w : World} {pd gb n cap st : Nat} {vs : List Nat} (h : Dq w pd gb n cap st vs) : w.cell? ⟨pd, 0, none⟩ = some (.slice (some ⟨gb, 0, none⟩) n cap) := cells_of h.blk 0
theorem Dq.c1 {w : World} {pd gb n cap st : Nat} {vs : List Nat} (h : Dq w pd gb n cap st vs) : w.cell? ⟨pd, 1, none⟩ = some (.int .i64 st) := cells_of h.blk 1
theorem Dq.ne {w : World} {pd gb n cap st : Nat} {vs : List Nat} (h : Dq w pd gb n cap st vs) : pd ≠ gb := fun e => by
  obtain ⟨zs, hz⟩ := h.row
  have h1 := h.blk
  unfold Rw at h1 hz
  rw [e, hz] at h1
  simp at h1

theorem wrap_i64 {x : Int} (h0 : 0 ≤ x) (h1 : x < 9223372036854775808) : IntKind.i64.wrap x = x := by
  simp [IntKind.wrap, IntKind.bits, IntKind.signed]; split <;> omega

theorem drop_del (vs : List Nat) (st i : Nat) : (vs.take (st + i) ++ vs.drop (st + i + 1)).drop st = (vs.drop st).eraseIdx i := by
  rw [List.eraseIdx_eq_take_drop_succ, List.drop_drop]
  by_cases h : st ≤ vs.length
  · rw [List.drop_append_of_le_length (by simp; omega), List.drop_take, Nat.add_sub_cancel_left]
    rfl
  · rw [List.drop_of_length_le (by simp; omega), List.drop_of_length_le (by omega), List.drop_of_length_le (by omega)]
    simp
theorem drop_shift (vs : List Nat) (st i : Nat) (h : st + i < vs.length) : (vs.take st ++ 0 :: ((vs.drop st).take i ++ vs.drop (st + i + 1))).drop (st + 1) = (vs.drop st).eraseIdx i := by
  rw [List.drop_append]
  have e1 : (vs.take st).length = st := by simp; omega
  rw [e1, show st + 1 - st = 1 by omega, List.drop_of_length_le (by rw [e1]; omega), List.nil_append, List.drop_succ_cons, List.drop_zero, List.eraseIdx_eq_take_drop_succ, List.drop_drop]
  rfl

theorem Dq.del {w w2 : World} {pd gb n cap st i : Nat} {vs : List Nat} (h : Dq w pd gb n cap st vs) (hi : st + i < n) (hz : ∃ zs', Rw w2 gb 24 zs') (hce : ∀ (j v : Nat), (vs.take (st + i) ++ vs.drop (st + i + 1))[j]? = some v → w2.cell? ⟨gb, j, none⟩ = some (u32 v)) (hk : Kept [gb] w w2) :
    (∃ n' st' vs', Dq (w2.setCell ⟨pd, 0, none⟩ (.slice (some ⟨gb, 0, none⟩) (n - 1) cap)) pd gb n' cap st' vs' ∧ vs'.drop st' = (vs.drop st).eraseIdx i) ∧ Kept [pd, gb] w (w2.setCell ⟨pd, 0, none⟩ (.slice (some ⟨gb, 0, none⟩) (n - 1) cap)) := by
  have hne := h.ne
  obtain ⟨zs', hz'⟩ := hz
  have hb : Rw w2 pd 65 [.slice (some ⟨gb, 0, none⟩) n cap, .int .i64 st] := hk.at h.blk (by simp; exact hne)
  have hl := h.len
  have h1 := h.n_le
  refine ⟨⟨n - 1, st, _, ⟨hb.set 0 _, ⟨zs', hz'.other (fun e => hne e.symm) _ _⟩, by simp; omega, fun j v hj => ?_, by omega, by omega, h.cap_le⟩, drop_del vs st i⟩, (hk.mono (by simp)).setCell (by simp) _⟩
  rw [World.cell?_of_block (w := w2) (Below.heap_setCell _ _ _ _ (fun e => hne e.symm))]
  exact hce j v hj

set_option maxRecDepth 100000 in
set_option maxHeartbeats 1000000 in
theorem remove_hi (pd gb n cap st i : Nat) (vs : List Nat) (w : World) (h : Dq w pd gb n cap st vs) (hi : st + i < n) (hhi : (n - st) / 2 < i) :
    Calls Try.prog 29 #[.pointer (some ⟨pd, 0, none⟩), .int .i64 i] w fun e w' => e = .returned (.tuple #[]) ∧ (∃ n' st' vs', Dq w' pd gb n' cap st' vs' ∧ vs'.drop st' = (vs.drop st).eraseIdx i) ∧ Kept [pd, gb] w w' := by
  have c0 := h.c0
  have c1 := h.c1
  have f0 : w.frozen? ⟨pd, 0, none⟩ = false := free_of h.blk 0
  have hn := h.n_le
  have hcap := h.cap_le
  have hst := h.st_le
  have hne := h.ne
  have hne2 : gb ≠ pd := fun e => hne e.symm
  have HD : Hid (Dq w pd gb n cap st vs) := h
  have HL : Hid (Calls Try.prog 34 #[.pointer (some ⟨pd, 0, none⟩)] w fun e w' => e = .returned (.int .i64 ((n - st : Nat) : Int)) ∧ ∃ q, w' = w.drewN q) := len_any pd n cap st _ w c0 c1 hst hn (by omega)
  have HDL : Hid (∀ q : Nat, Calls Try.prog 35 #[.slice (some ⟨gb, 0, none⟩) n cap, .int .i64 (IntKind.i64.wrap ((st : Int) + (i : Int))), .int .i64 (IntKind.i64.wrap (IntKind.i64.wrap ((st : Int) + (i : Int)) + 1))] (w.drewN (q + 1)) fun e w' => e = .returned (.slice (some ⟨gb, 0, none⟩) (n - 1) cap) ∧ (∃ zs', Rw w' gb 24 zs') ∧ (∀ (j v : Nat), (vs.take (st + i) ++ vs.drop (st + i + 1))[j]? = some v → w'.cell? ⟨gb, j, none⟩ = some (u32 v)) ∧ Kept [gb] (w.drewN (q + 1)) w') := fun q => by
    obtain ⟨zs, hz⟩ := h.row
    have := delete_any gb n cap (st + i) vs _ zs (w.drewN (q + 1)) hz h.len h.cells hi hn (by omega) rfl
    rw [show (((st + i : Nat) : Int)) = (st : Int) + (i : Int) from by omega] at this
    rw [wrap_i64 (x := (st : Int) + (i : Int)) (by omega) (by omega), wrap_i64 (by omega) (by omega)]
    exact this
  obtain ⟨m, hm⟩ : ∃ m, m = n - st := ⟨_, rfl⟩
  rw [← hm] at HL hhi
  have hmI : (m : Int) / 2 < (i : Int) := by omega
  have hm2 : m ≤ 1099511627776 := by omega
  clear h hm
  go_enter Try.func29, Try.ntmps29
  go_wp2_with fail
  refine HL.out.mono ?_
  rintro e w1 ⟨rfl, q, hw1⟩
  subst hw1
  go_wp2_with fail
  go_region_with ((go_at_call 35; refine (HDL.out q).mono ?_; rintro e w2 ⟨rfl, hz, hce, hkp⟩; have d0 : w2.cell? ⟨pd, 0, none⟩ = some (.slice (some ⟨gb, 0, none⟩) n cap) := hkp.cell c0 (by simp; exact hne); have d1 : w2.cell? ⟨pd, 1, none⟩ = some (.int .i64 st) := hkp.cell c1 (by simp; exact hne); have d2 : w2.frozen? ⟨pd, 0, none⟩ = false := free_of (hkp.at HD.out.blk (by simp; exact hne)) 0; have HF : Hid ((∃ n' st' vs', Dq (w2.setCell ⟨pd, 0, none⟩ (.slice (some ⟨gb, 0, none⟩) (n - 1) cap)) pd gb n' cap st' vs' ∧ vs'.drop st' = (vs.drop st).eraseIdx i) ∧ Kept [pd, gb] w (w2.setCell ⟨pd, 0, none⟩ (.slice (some ⟨gb, 0, none⟩) (n - 1) cap))) := HD.out.del hi hz hce ⟨hkp.os, hkp.tape, hkp.output, hkp.size, hkp.block⟩; clear hz hce hkp))
  all_goals
    go_wp2_with fail
    refine bodyPost_ret (results_none rfl _ _ _) rfl ?_
    exact ⟨rfl, HF.out⟩
end Go.Proofs.Qxb6616938a.A
