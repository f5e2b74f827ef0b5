import Derived.Test.Qxb6616938aAH
namespace Go.Proofs.Qxb6616938a.A
open Go.ChangeShapes Go.WideShapes Go.ChangeAt Go.RowKit Go.Sort
set_option linter.unusedVariables false

set_option maxRecDepth 100000 in
set_option maxHeartbeats 1000000 in
theorem remove_lo (pd gb n cap st i : Nat) (vs : List Nat) (w : World) (h : Dq w pd gb n cap st vs) (hi : st + i < n) (hlo : ¬ (n - st) / 2 < i) :
    Calls Try.prog 29 #[.pointer (some ⟨pd, 0, none⟩), .int .i64 i] w fun e w' => e = .returned (.tuple #[]) ∧ (∃ n' st' vs', Dq w' pd gb n' cap st' vs' ∧ vs'.drop st' = (vs.drop st).eraseIdx i) ∧ Kept [pd, gb] w w' := by
  have c0 := h.c0
  have c1 := h.c1
  have hn := h.n_le
  have hcap := h.cap_le
  have hst := h.st_le
  have hne := h.ne
  have hne2 : gb ≠ pd := fun e => hne e.symm
  have HD : Hid (Dq w pd gb n cap st vs) := h
  have HL : Hid (Calls Try.prog 34 #[.pointer (some ⟨pd, 0, none⟩)] w fun e w' => e = .returned (.int .i64 ((n - st : Nat) : Int)) ∧ ∃ q, w' = w.drewN q) := len_any pd n cap st _ w c0 c1 hst hn (by omega)
  obtain ⟨a1, hs1, ha1⟩ := slice_from Try.underlying28 sz24 (some ⟨gb, 0, none⟩) n cap (st + 1) (by omega) hn (by omega)
  obtain ⟨a2, hs2, ha2⟩ := slice_mid Try.underlying28 sz24 (some ⟨gb, 0, none⟩) n cap st (st + i) (by omega) (by omega) (by omega)
  have HMV : Hid (∀ q, ∃ w2, (Builtin.copy_ #[28, 28] 3 #[.slice a1 (n - (st + 1)) (cap - (st + 1)), .slice a2 i (cap - st)]).run Try.prog (w.drewN q) = .ok (.int .i64 i) w2 ∧ (∃ zs, Rw w2 gb 24 zs) ∧ (∀ (j v : Nat), (vs.take (st + 1) ++ ((vs.drop st).take i ++ vs.drop (st + i + 1)))[j]? = some v → w2.cell? ⟨gb, j, none⟩ = some (u32 v)) ∧ Kept [gb] (w.drewN q) w2) := fun q => by
    have hd : Dq (w.drewN q) pd gb n cap st vs := ⟨h.blk, h.row, h.len, h.cells, h.st_le, h.n_le, h.cap_le⟩
    by_cases hlt : st + 1 < n
    · exact hd.moved hi a1 a2 (fun _ => ha1 gb (fun _ => rfl) hlt) (fun hh => ha2 gb rfl hh) 3
    · obtain rfl : i = 0 := by omega
      obtain ⟨zs, hz⟩ := h.row
      refine ⟨_, run_copy_none (P := Try.prog) _ 28 28 3 24 _ _ _ _ _ _ Try.underlying28 sz24 (by simp), ⟨zs, hz⟩, fun j v hj => h.cells j v ?_, Kept.refl _ _⟩
      simpa using hj
  rw [show ((st + 1 : Nat) : Int) = IntKind.i64.wrap ((st : Int) + 1) from by rw [wrap_i64 (by omega) (by omega)]; omega] at hs1
  rw [show ((st + i : Nat) : Int) = IntKind.i64.wrap ((st : Int) + (i : Int)) from by rw [wrap_i64 (by omega) (by omega)]; omega, Nat.add_sub_cancel_left] at hs2
  obtain ⟨m, hm⟩ : ∃ m, m = n - st := ⟨_, rfl⟩
  rw [← hm] at HL hlo
  have hmI : (i : Int) ≤ (m : Int) / 2 := by omega
  have hm2 : m ≤ 1099511627776 := by omega
  clear h hm ha1 ha2
  go_enter Try.func29, Try.ntmps29
  go_wp2_with fail
  refine HL.out.mono ?_
  rintro e w1 ⟨rfl, q, hw1⟩
  subst hw1
  obtain ⟨w2, hcp, hz, hce, hkp⟩ := HMV.out (q + 1)
  have hcp' : (Builtin.copy_ #[28, 28] 3 #[.slice a1 (n - (st + 1)) (cap - (st + 1)), .slice a2 i (cap - st)]).run Try.prog (w.drewN q).drew = .ok (.int .i64 i) w2 := hcp
  have d0 : w2.cell? ⟨pd, 0, none⟩ = some (.slice (some ⟨gb, 0, none⟩) n cap) := hkp.cell c0 (by simp; exact hne)
  have d1 : w2.cell? ⟨pd, 1, none⟩ = some (.int .i64 st) := hkp.cell c1 (by simp; exact hne)
  have d2 : w2.frozen? ⟨pd, 1, none⟩ = false := free_of (hkp.at HD.out.blk (by simp; exact hne)) 1
  have hvl := HD.out.len
  obtain ⟨v0, d3⟩ : ∃ v, w2.cell? ⟨gb, st, none⟩ = some v := ⟨_, hce st vs[st] (by rw [List.getElem?_append_left (by simp; omega), List.getElem?_take, if_pos (by omega)]; exact List.getElem?_eq_getElem (by omega))⟩
  have d4 : w2.frozen? ⟨gb, st, none⟩ = false := by
    obtain ⟨zs, hz'⟩ := hz
    exact free_of hz' st
  have HF : Hid ((∃ n' st' vs', Dq ((w2.setCell ⟨gb, st, none⟩ (.int .u32 0)).setCell ⟨pd, 1, none⟩ (.int .i64 ((st : Int) + 1))) pd gb n' cap st' vs' ∧ vs'.drop st' = (vs.drop st).eraseIdx i) ∧ Kept [pd, gb] w ((w2.setCell ⟨gb, st, none⟩ (.int .u32 0)).setCell ⟨pd, 1, none⟩ (.int .i64 ((st : Int) + 1)))) := HD.out.low hi hz hce ⟨hkp.os, hkp.tape, hkp.output, hkp.size, hkp.block⟩
  have hstI : (st : Int) < (n : Int) := by omega
  have HCP : Hid ((Builtin.copy_ #[28, 28] 3 #[.slice a1 (n - (st + 1)) (cap - (st + 1)), .slice a2 i (cap - st)]).run Try.prog (w.drewN (q + 1)) = .ok (.int .i64 i) w2) := hcp
  clear hz hce hkp HMV hvl hcp hcp' HL
  go_wp2_with fail
  go_region_held3 (fun x => x.cell? ⟨pd, 0, none⟩ = some (.slice (some ⟨gb, 0, none⟩) n cap) ∧ x.cell? ⟨pd, 1, none⟩ = some (.int .i64 st)) (go_keep) (refine step_copy_ran rfl (.tmp 40) (.tmp 55) 28 rfl _ _ _ _ rfl rfl HCP.out ?_)
  go_wp2_with fail
  go_region
  go_wp2_with fail
  go_end0
  obtain ⟨⟨n', st', vs', hd, he⟩, hk⟩ := HF.out
  exact ⟨rfl, ⟨n', st', vs', ⟨hd.blk, hd.row, hd.len, hd.cells, hd.st_le, hd.n_le, hd.cap_le⟩, he⟩, ⟨hk.os, hk.tape, hk.output, hk.size, hk.block⟩⟩

/-- deque.remove -/
theorem remove_any (pd gb n cap st i : Nat) (vs : List Nat) (w : World) (h : Dq w pd gb n cap st vs) (hi : st + i < n) :
    Calls Try.prog 29 #[.pointer (some ⟨pd, 0, none⟩), .int .i64 i] w fun e w' => e = .returned (.tuple #[]) ∧ (∃ n' st' vs', Dq w' pd gb n' cap st' vs' ∧ vs'.drop st' = (vs.drop st).eraseIdx i) ∧ Kept [pd, gb] w w' := by
  by_cases hh : (n - st) / 2 < i
  · exact remove_hi pd gb n cap st i vs w h hi hh
  · exact remove_lo pd gb n cap st i vs w h hi hh
end Go.Proofs.Qxb6616938a.A
