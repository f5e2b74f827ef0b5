import Derived.Test.Qxb6616938aDG
namespace Go.Proofs.Qxb6616938a.A
open Go.ChangeShapes Go.WideShapes Go.ChangeAt Go.RowKit Go.Sort
set_option linter.unusedVariables false

/-- increasing, positive, 32 bits -/
def Inc (l : List Nat) : Prop := l.Pairwise (· < ·) ∧ ∀ x ∈ l, 0 < x ∧ x < 4294967296

theorem Inc.filter {l : List Nat} (h : Inc l) (f : Nat → Bool) : Inc (l.filter f) := ⟨h.1.filter f, fun x hx => h.2 x (List.mem_filter.1 hx).1⟩

/-- to strike the place of q is to strike q -/
theorem erase_eq : ∀ {l : List Nat} {i q : Nat}, l.Pairwise (· < ·) → l[i]? = some q → l.eraseIdx i = l.filter (fun x => x != q)
  | [], i, q, _, h => by simp at h
  | x :: r, 0, q, hp, h => by
    simp at h; subst h
    have := (List.pairwise_cons.1 hp).1
    rw [List.filter_cons_of_neg (by simp), List.filter_eq_self.2 (fun y hy => by have := this y hy; simp; omega)]
    rfl
  | x :: r, i + 1, q, hp, h => by
    simp at h
    have h1 := (List.pairwise_cons.1 hp).1 q (List.mem_of_getElem? h)
    rw [List.filter_cons_of_pos (by simp; omega), List.eraseIdx_cons_succ, erase_eq (List.pairwise_cons.1 hp).2 h]

/-- 'c.supports--' -/
theorem Op.decr {P : Int → Prop} {w : World} {B U pc : Nat} {sup : Int} {L : Int → List Nat} {c : Nat} {xs : List Value} {D : Nat → Nat} {mv : Value} {pd gb : Int → Nat} (h : Op P w B U pc sup L c xs D mv pd gb) (s : Int) :
    Op P (w.setCell ⟨pc, 13, none⟩ (.int .i64 s)) B U pc s L c (xs.set 13 (.int .i64 s)) D mv pd gb := by
  have hk : Kept [pc] w (w.setCell ⟨pc, 13, none⟩ (.int .i64 s)) := (Kept.refl _ _).setCell (by simp) _
  refine ⟨h.nm.set 13 _ (by omega), List.getElem?_set_self (by rw [h.nm.len]; omega), ?_, h.map.stay hk.turn (fun _ h => h) (fun m es cl hm e => ?_), h.deqs.stay hk.turn (fun _ h => h) (fun x hx hl => ?_), h.low, Nat.le_trans h.us hk.size⟩
  · rw [List.getElem?_set_ne (by omega)]; exact h.h15
  · simp at e; subst e
    have := h.nm.blk
    unfold Rw at this
    rw [hm] at this; simp at this
  · obtain ⟨n, cap, st, vs, hd, _⟩ := h.deqs.dq x hx hl
    obtain ⟨zs, hz⟩ := hd.row
    simp
    exact ⟨hd.blk.ne h.nm.blk (by decide), hz.ne h.nm.blk (by decide)⟩

theorem Op.weak {P Q : Int → Prop} {w : World} {B U pc : Nat} {sup : Int} {L : Int → List Nat} {c : Nat} {xs : List Value} {D : Nat → Nat} {mv : Value} {pd gb : Int → Nat} (h : Op P w B U pc sup L c xs D mv pd gb) (hq : ∀ k, Q k → P k) : Op Q w B U pc sup L c xs D mv pd gb :=
  h.stay (X := fun _ => False) (fun _ _ h _ => h) (Nat.le_refl _) hq (by simp) (by simp) (by simp) (by simp)

set_option maxRecDepth 100000 in
set_option maxHeartbeats 1000000 in
/-- chain.removeDepth -/
theorem removeDepth_op (pc B U : Nat) (sup : Int) (L : Int → List Nat) (c : Nat) (k : Int) (q : Nat) (xs : List Value) (D : Nat → Nat) (mv : Value) (pd gb : Int → Nat) (w : World) (h : Op I32 w B U pc sup L c xs D mv pd gb) (hk : I32 k) (hinc : Inc (L k)) (hq : q ∈ L k) (hB : B ≤ w.heap.size) (hc : c < 1040000) (hlen : (L k).length ≤ 1048576) :
    Calls Try.prog 20 #[.pointer (some ⟨pc, 0, none⟩), .int .i32 k, .int .u32 q] w fun e w' => e = .returned (.tuple #[]) ∧ Ch w' B U pc (wrap64 (sup - 1)) (upd L k ((L k).filter (fun x => x != q))) (c + 2) ∧ Kc B U pc w w' := by
  have hb := h.nm.blk
  have c13 : w.cell? ⟨pc, 13, none⟩ = some (.int .i64 sup) := by rw [cells_of hb 13]; simpa using h.h13
  have f13 : w.frozen? ⟨pc, 13, none⟩ = false := free_of hb 13
  obtain ⟨i, hi⟩ := List.getElem?_of_mem hq
  have hil : i < (L k).length := (List.getElem?_eq_some_iff.1 hi).1
  have hOP : Op I32 (w.setCell ⟨pc, 13, none⟩ (.int .i64 (wrap64 (sup - 1)))) B U pc (wrap64 (sup - 1)) L c (xs.set 13 (.int .i64 (wrap64 (sup - 1)))) D mv pd gb := h.decr _
  have HD : Hid (Calls Try.prog 26 #[.pointer (some ⟨pc, 0, none⟩), .int .i32 k] (w.setCell ⟨pc, 13, none⟩ (.int .i64 (wrap64 (sup - 1)))) fun e w' => ∃ p g, e = .returned (.pointer (some ⟨p, 0, none⟩)) ∧ DqI w' p g (L k) ∧ Kept [] (w.setCell ⟨pc, 13, none⟩ (.int .i64 (wrap64 (sup - 1)))) w' ∧ ((2 ≤ (L k).length ∧ p = pd k ∧ g = gb k) ∨ ((L k).length < 2 ∧ (w.setCell ⟨pc, 13, none⟩ (.int .i64 (wrap64 (sup - 1)))).heap.size ≤ p ∧ (w.setCell ⟨pc, 13, none⟩ (.int .i64 (wrap64 (sup - 1)))).heap.size ≤ g))) :=
    depthsOf_any pc B U _ L c k _ D mv pd gb _ hOP hk (fun x hx => (hinc.2 x hx).1)
  have HO : Hid (Op I32 (w.setCell ⟨pc, 13, none⟩ (.int .i64 (wrap64 (sup - 1)))) B U pc (wrap64 (sup - 1)) L c (xs.set 13 (.int .i64 (wrap64 (sup - 1)))) D mv pd gb) := hOP
  have hKW : Kept [pc] w (w.setCell ⟨pc, 13, none⟩ (.int .i64 (wrap64 (sup - 1)))) := (Kept.refl _ _).setCell (by simp) _
  have HKW : Hid (Kept [pc] w (w.setCell ⟨pc, 13, none⟩ (.int .i64 (wrap64 (sup - 1))))) := hKW
  have HIN : Hid (Inc (L k) ∧ (L k)[i]? = some q ∧ (L k).length ≤ 1048576 ∧ i < (L k).length) := ⟨hinc, hi, hlen, hil⟩
  clear h hb hOP hinc hq hi hil hKW hlen
  go_enter Try.func20, Try.ntmps20
  go_wp2_with fail
  refine HD.out.mono ?_
  rintro e w2 ⟨p, g, rfl, hdq, hk2, hor⟩
  clear HD
  obtain ⟨nl, hnl⟩ : ∃ nl, nl = (L k).length := ⟨_, rfl⟩
  obtain ⟨hinc, hi, hlen, hil⟩ := HIN.out
  have HI : Hid (Calls Try.prog 28 #[.pointer (some ⟨p, 0, none⟩)] w2 fun e w' => ∃ a off cap, e = .returned (.slice a nl cap) ∧ Sl w2 a g off ((L k).map u32) ∧ ∃ q, w' = w2.drewN q) := by rw [hnl]; exact hdq.items
  have HDQ : Hid (DqI w2 p g (L k)) := hdq
  have HK2 : Hid (Kept [] (w.setCell ⟨pc, 13, none⟩ (.int .i64 (wrap64 (sup - 1)))) w2) := hk2
  have HOR : Hid ((2 ≤ (L k).length ∧ p = pd k ∧ g = gb k) ∨ ((L k).length < 2 ∧ (w.setCell ⟨pc, 13, none⟩ (.int .i64 (wrap64 (sup - 1)))).heap.size ≤ p ∧ (w.setCell ⟨pc, 13, none⟩ (.int .i64 (wrap64 (sup - 1)))).heap.size ≤ g)) := hor
  have HNL : Hid (nl = (L k).length) := hnl
  clear hdq hk2 hor hnl hinc hi hlen hil
  go_wp2_with fail
  refine HI.out.mono ?_
  rintro e w3 ⟨a, off, cap, rfl, hs, qq, hw3⟩
  subst hw3
  clear HI
  obtain ⟨hinc, hi, hlen, hil⟩ := HIN.out
  have HBS : Hid (Calls Try.prog 27 #[.slice a nl cap, .int .u32 q] (w2.drewN qq) fun e w' => e = .returned (.tuple #[.int .i64 i, .bool true]) ∧ w' = w2.drewN qq) := by
    rw [HNL.out]
    refine bsearch_any a g off (L k).length cap (fun j => (L k).getD j 0) q (w2.drewN qq) (fun hh => hs.at_ (by simp; exact hh)) (fun j hj => ?_) (by omega) (fun j j' hjj hj' => ?_) i hil ?_
    · exact hs.cells j _ (by simp [List.getElem?_eq_getElem hj, List.getD_eq_getElem?_getD, u32])
    · have := List.pairwise_iff_getElem.1 hinc.1 j j' (by omega) hj' hjj
      simpa [List.getD_eq_getElem?_getD, List.getElem?_eq_getElem hj', List.getElem?_eq_getElem (show j < (L k).length by omega)] using this
    · simp [List.getD_eq_getElem?_getD, hi]
  have HRM : Hid (Calls Try.prog 29 #[.pointer (some ⟨p, 0, none⟩), .int .i64 i] (w2.drewN qq) fun e w' => e = .returned (.tuple #[]) ∧ DqI w' p g ((L k).filter (fun x => x != q)) ∧ Kept [p, g] w2 w') := by
    obtain ⟨n, cp, st, vs, hd, he⟩ := HDQ.out.dq (fun e => by rw [e] at hil; simp at hil)
    have hl := hd.len
    have hd' : Dq (w2.drewN qq) p g n cp st vs := ⟨hd.blk, hd.row, hd.len, hd.cells, hd.st_le, hd.n_le, hd.cap_le⟩
    refine (remove_any p g n cp st i vs (w2.drewN qq) hd' (by rw [← he] at hil; simp at hil; omega)).mono ?_
    rintro e w' ⟨rfl, ⟨n', st', vs', hd2, he2⟩, hkp⟩
    refine ⟨rfl, .inr ⟨n', cp, st', vs', hd2, ?_⟩, ⟨hkp.os, hkp.tape, hkp.output, hkp.size, hkp.block⟩⟩
    rw [he2, he, erase_eq hinc.1 hi]
  clear hs hinc hi hlen hil HNL
  go_wp2_with fail
  refine HBS.out.mono ?_
  rintro e w3 ⟨rfl, hw3⟩
  subst hw3
  clear HBS
  go_wp2_with fail
  refine HRM.out.mono ?_
  rintro e w3 ⟨rfl, hdq3, hk3⟩
  clear HRM
  have HKP : Hid (Calls Try.prog 25 #[.pointer (some ⟨pc, 0, none⟩), .int .i32 k, .pointer (some ⟨p, 0, none⟩)] w3 fun e w' => e = .returned (.tuple #[]) ∧ Ch w' B U pc (wrap64 (sup - 1)) (upd L k ((L k).filter (fun x => x != q))) (c + 2) ∧ Kc B U pc w w') := by
    obtain ⟨hinc, hi, hlen, hil⟩ := HIN.out
    have hfl : ((L k).filter (fun x => x != q)).length ≤ (L k).length := List.length_filter_le _ _
    have hB1 : B ≤ (w.setCell ⟨pc, 13, none⟩ (.int .i64 (wrap64 (sup - 1)))).heap.size := Nat.le_trans hB HKW.out.size
    have hB3 : B ≤ w3.heap.size := Nat.le_trans hB1 (Nat.le_trans HK2.out.size hk3.size)
    have hop3 : Op (fun x => I32 x ∧ x ≠ k) w3 B U pc (wrap64 (sup - 1)) L c (xs.set 13 (.int .i64 (wrap64 (sup - 1)))) D mv pd gb := by
      rcases HOR.out with ⟨h2, rfl, rfl⟩ | ⟨h2, h3, h4⟩
      · exact (HO.out.kept0 HK2.out).hole hk h2 hk3
      · exact (HO.out.kept0 (HK2.out.fresh hk3 (fun j hj => .inr (by simp only [List.mem_cons, List.not_mem_nil, or_false] at hj; rcases hj with e | e <;> rw [e] <;> assumption)))).weak (fun x hx => hx.1)
    have hkc : Kc B U pc w w3 := by
      have k1 : Kc B U pc w (w.setCell ⟨pc, 13, none⟩ (.int .i64 (wrap64 (sup - 1)))) := Kc.kept HKW.out (by simp)
      have k2 := k1.snoc HK2.out (by simp) hB
      refine k2.snoc hk3 ?_ hB
      rcases HOR.out with ⟨h2, rfl, rfl⟩ | ⟨h2, h3, h4⟩
      · have := HO.out.deqs.ge k hk h2
        simp; omega
      · have := HKW.out.size
        simp; omega
    refine (keep_any pc B U p g _ L c k _ D mv pd gb _ w3 hop3 hk hB3 hc (by omega) (fun x hx => (hinc.2 x (List.mem_filter.1 hx).1).2) hdq3 (fun h2 => ?_) (fun h2 x hx hne hl => ?_)).mono ?_
    · rcases HOR.out with ⟨h2, rfl, rfl⟩ | ⟨h2, h3, h4⟩
      · exact HO.out.deqs.ge k hk h2
      · omega
    · rcases HOR.out with ⟨h2, rfl, rfl⟩ | ⟨h2, h3, h4⟩
      · exact HO.out.deqs.inj k x hk hx h2 hl (fun e => hne e.symm)
      · omega
    · rintro e w' ⟨rfl, ⟨U', hch, _, hU⟩, hkc'⟩
      obtain rfl : U' = U := by
        rcases hU with e | ⟨e, h2⟩
        · exact e
        · rcases HO.out.map with ⟨_, h5⟩ | ⟨b, _, e', _⟩
          · have := h5 k hk; omega
          · rw [e] at e'; cases e'
      exact ⟨rfl, hch, hkc.trans hkc'⟩
  clear hdq3 hk3 HOR HK2 HDQ HO HKW HIN
  go_wp2_with fail
  refine HKP.out.mono ?_
  rintro e w4 ⟨rfl, hch, hkc⟩
  go_wp2_with fail
  go_end0
  exact ⟨rfl, hch, hkc⟩
end Go.Proofs.Qxb6616938a.A
