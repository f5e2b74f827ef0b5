import Derived.Test.Qxb6616951aP
namespace Go.Proofs.Qxb6616951a.A
open Go.ChangeShapes Go.WideShapes Go.ChangeAt Go.RowKit
set_option linter.unusedVariables false

set_option maxRecDepth 100000 in
set_option maxHeartbeats 8000000 in
theorem law5_in (line cost : Int) (m x : Nat) (a a' : Option Addr) (b off c b' off' c' : Nat) (zs : List Int) (bs : List Bool) (w : World)
    (h1 : InS w a b off c (zs.map (.int .i64))) (h2 : InS w a' b' off' c' (bs.map .bool))
    (t1 : zs.length ≤ 4096) (t2 : bs.length ≤ 4096) (t4 : m ≤ 4096) (t5 : bs.length = zs.length) (k1 : -9223372036854775808 ≤ cost) (k2 : cost ≤ 9223372036854775807) :
    Calls Try.prog 5 #[.int .i64 line, .int .i64 cost, .slice a zs.length c, .slice a' bs.length c', .int .i64 m, .float .f64 x] w fun e w' => e = .returned (.bool true) ∧ Below w.heap.size w w' := by
  have HB : Hid (Calls Try.prog 19 #[.int .i64 line, .int .i64 cost, .slice a zs.length c, .slice a' bs.length c', .int .i64 m, .float .f64 x] w fun e w' => (∃ r, e = .returned (.bool r)) ∧ w' = w) := bytes19_any _ _ _ _ a a' _ c _ c' w (by omega) (by omega)
  have H1 : Hid (InS w a b off c (zs.map (.int .i64))) := h1
  have H2 : Hid (InS w a' b' off' c' (bs.map .bool)) := h2
  clear h1 h2
  have t5' : ((bs.length : Int) != (zs.length : Int)) = false := by rw [bne_eq_false_iff_eq]; omega
  have HT5 : Hid (bs.length = zs.length) := t5
  clear t5
  obtain ⟨u1, hu1⟩ : ∃ u, Hid (u = !a.isNone) := ⟨_, rfl⟩
  obtain ⟨u2, hu2⟩ : ∃ u, Hid (u = !a'.isNone) := ⟨_, rfl⟩
  have he1 : ∀ (w : World), (binOp .neq 24 (.slice a zs.length c) (.slice none 0 0)).run Try.prog w = .ok (.bool u1) w := fun w => by rw [hu1.out]; exact run_neq_slice_nil_any w 24 3 a _ _ _ _ Try.underlying24
  have he2 : ∀ (w : World), (binOp .neq 25 (.slice a' bs.length c') (.slice none 0 0)).run Try.prog w = .ok (.bool u2) w := fun w => by rw [hu2.out]; exact run_neq_slice_nil_any w 25 4 a' _ _ _ _ Try.underlying25
  have HW : Hid (wrap64 (0 + cost) = cost) := wrap_c k1 k2
  clear k1 k2
  go_enter Try.func5, Try.ntmps5
  go_wp2_with fail
  refine HB.out.mono ?_
  rintro e w' ⟨⟨r, rfl⟩, rfl⟩
  cases r
  · go_wp2_with fail
    go_ret
    exact ⟨rfl, Below.refl _ _⟩
  go_upto_if 56 with fail
  go_cut [2] from 28 (fun s wx => ∃ a2 c2 g2, s = .slice a2 zs.length c2 ∧ OwnS wx 0 a2 g2 c2 (zs.map (.int .i64)) ∧ Kept [] w' wx)
  case first =>
    as_aux_lemma =>
      cases u1 with
      | false =>
        go_wp2_with fail
        go_meet
        have hn : a = none := by have h := hu1.out; cases a with | none => rfl | some _ => cases h
        obtain ⟨e1, e2⟩ := H1.out.nil hn
        exact ⟨a, c, 0, rfl, ⟨fun h => by rw [e1] at h; simp at h, fun i u hi => by rw [e1] at hi; simp at hi, by rw [e1]; simp, by omega, fun _ => e2⟩, Kept.refl _ _⟩
      | true =>
        have hmk := run_make_row' (P := Try.prog) 24 3 (.int .i64 0) 8 Try.underlying24 info3 rfl .i64 .i64 zs.length (by omega) (by omega)
        obtain ⟨w2, hcp, hrw, hkp⟩ := copied Try.underlying24 sz3 H1.out (.int .i64 0) 3
        rw [List.length_map] at hcp
        have HRW : Hid (Rw w2 w'.heap.size 3 (zs.map (.int .i64))) := hrw
        have HKP : Hid (Kept [] w' w2) := hkp
        clear hrw hkp
        go_wp2_with fail
        go_meet
        refine ⟨_, _, w'.heap.size, rfl, ?_, HKP.out⟩
        have := OwnS.of HRW.out (by simp; omega)
        rw [List.length_map] at this
        exact this
  case rest =>
    as_aux_lemma =>
      obtain ⟨a2, q2, g2, rfl, hoz, hkz⟩ := hcut
      have HOZ : Hid (OwnS wc 0 a2 g2 q2 (zs.map (.int .i64))) := hoz
      have HKZ : Hid (Kept [] w' wc) := hkz
      have H2' : Hid (InS wc a' b' off' c' (bs.map .bool)) := H2.out.kept hkz
      clear hoz hkz H1 H2 HB he1 hu1
      go_upto_if 65 with fail
      go_cut [3] from 28 (fun s wx => ∃ a3 q3 g3, s = .slice a3 bs.length q3 ∧ OwnS wx 0 a3 g3 q3 (bs.map .bool) ∧ OwnS wx 0 a2 g2 q2 (zs.map (.int .i64)) ∧ Kept [] w' wx)
      case first =>
        as_aux_lemma =>
          cases u2 with
          | false =>
            go_wp2_with fail
            go_meet
            have hn : a' = none := by have h := hu2.out; cases a' with | none => rfl | some _ => cases h
            obtain ⟨e1, e2⟩ := H2'.out.nil hn
            exact ⟨a', c', 0, rfl, ⟨fun h => by rw [e1] at h; simp at h, fun i u hi => by rw [e1] at hi; simp at hi, by rw [e1]; simp, by omega, fun _ => e2⟩, HOZ.out, HKZ.out⟩
          | true =>
            have hmk := run_make_row' (P := Try.prog) 25 4 (.bool false) 1 Try.underlying25 info4b rfl .i64 .i64 bs.length (by omega) (by omega)
            obtain ⟨w2, hcp, hrw, hkp⟩ := copied Try.underlying25 sz4 H2'.out (.bool false) 3
            rw [List.length_map] at hcp
            have HRW : Hid (Rw w2 wc.heap.size 4 (bs.map .bool)) := hrw
            have HKP : Hid (Kept [] wc w2) := hkp
            clear hrw hkp
            go_wp2_with fail
            go_meet
            refine ⟨_, _, wc.heap.size, rfl, ?_, HOZ.out.kept HKP.out, HKZ.out.trans HKP.out⟩
            have := OwnS.of HRW.out (by simp; omega)
            rw [List.length_map] at this
            exact this
      case rest =>
        as_aux_lemma =>
          obtain ⟨a3, q3, g3, rfl, hob, hoz, hkz⟩ := hcut
          clear HOZ HKZ H2' he2 hu2
          have HOZ : Hid (OwnS wc 0 a2 g2 q2 (zs.map (.int .i64))) := hoz
          have HOB : Hid (OwnS wc 0 a3 g3 q3 (bs.map .bool)) := hob
          have HKZ : Hid (Kept [] w' wc) := hkz
          clear hoz hkz hob
          go_upto_block 0 with fail
          go_cut [15] from 28 (fun _ wx => Hid (∀ z ∈ zs, 0 ≤ z ∧ z < m) ∧ wc = wx)
          case first =>
            as_aux_lemma =>
              go_wp2_with fail
              go_loopw [15] (fun t wr => ∃ k : Nat, k ≤ zs.length ∧ t = .int .i64 k ∧ (∀ i z, i < k → zs[i]? = some z → 0 ≤ z ∧ z < m) ∧ wr = wc) (fun t _ => zs.length - (intOf t).toNat)
              case atStart => exact ⟨0, Nat.zero_le _, rfl, fun i z hi => by omega, rfl⟩
              case round =>
                obtain ⟨k, hk, rfl, hall, hwr⟩ := hrel
                subst hwr
                have HALL : Hid (∀ i z, i < k → zs[i]? = some z → 0 ≤ z ∧ z < m) := hall
                clear hall
                by_cases hlt : k < zs.length
                · obtain rfl := HOZ.out.at_ (by simp; omega)
                  obtain ⟨z, hzk⟩ : ∃ z, zs[k]? = some z := ⟨_, List.getElem?_eq_getElem hlt⟩
                  have d1 := HOZ.out.cells k (.int .i64 z) (by simp [hzk])
                  have hkI : (k : Int) < (zs.length : Int) := by omega
                  have HZK : Hid (zs[k]? = some z) := hzk
                  clear hzk
                  by_cases z1 : z < 0
                  · go_wp2_with fail
                    go_ret
                    exact ⟨rfl, HKZ.out.below (Nat.le_refl _) (by simp)⟩
                  by_cases z2 : (m : Int) ≤ z
                  · go_wp2_with fail
                    go_ret
                    exact ⟨rfl, HKZ.out.below (Nat.le_refl _) (by simp)⟩
                  go_wp2_with fail
                  go_roundw
                  case rel =>
                    refine ⟨k + 1, by omega, by go_num, fun i y hi hy => ?_, by simp⟩
                    by_cases e : i = k
                    · subst e
                      rw [HZK.out] at hy
                      injection hy with hy
                      omega
                    · exact HALL.out i y (by omega) hy
                  case measure => simp [intOf]; omega
                · go_wp2_with fail
                  go_meet
                  refine ⟨fun z hzm => ?_, rfl⟩
                  obtain ⟨i, hi⟩ := List.getElem?_of_mem hzm
                  exact HALL.out i z (by have := (List.getElem?_eq_some_iff.1 hi).1; omega) hi
          case rest =>
            as_aux_lemma =>
              obtain ⟨hin, hww⟩ := hcut
              subst hww
              have hle := vsOf_len HT5.out
              have hsrc := src_of HOZ.out HOB.out HT5.out t1 (fun z hz => (hin.out z hz).1)
              have hvm : ∀ v ∈ vsOf zs bs, v.1 < m := fun v hv => by
                obtain ⟨i, hi⟩ := List.getElem?_of_mem hv
                obtain ⟨z, e1, e2, e3⟩ := vsOf_at hi
                have := hin.out z (List.mem_of_getElem? e1)
                omega
              have HSRC : Hid (Src wc a2 a3 g2 0 g3 0 (vsOf zs bs)) := hsrc
              have HVM : Hid (∀ v ∈ vsOf zs bs, v.1 < m) := hvm
              have HLE : Hid ((vsOf zs bs).length = zs.length) := hle
              clear hsrc hvm hle
              have hmk := run_make_row' (P := Try.prog) 24 3 (.int .i64 0) 8 Try.underlying24 info3 rfl .i64 .i64 m (by omega) (by omega)
              go_wp2_with fail
              go_loopw [17] (fun t wr => ∃ k : Nat, k ≤ m ∧ t = .int .i64 k ∧ Rw wr wc.heap.size 3 (part (.int .i64 (-1)) (.int .i64 0) k m) ∧ Kept [] wc wr) (fun t _ => m - (intOf t).toNat)
              case atStart =>
                refine ⟨0, Nat.zero_le _, rfl, ?_, (Kept.refl _ _).alloc _⟩
                unfold Rw
                rw [part_zero, ← made_list]
                exact heap_alloc_new wc _
              case round =>
                obtain ⟨k, hk, rfl, hr, hkp⟩ := hrel
                have HR : Hid (Rw wr wc.heap.size 3 (part (.int .i64 (-1)) (.int .i64 0) k m)) := hr
                have HK : Hid (Kept [] wc wr) := hkp
                by_cases hlt : k < m
                · obtain ⟨v, e1⟩ : ∃ v, wr.cell? ⟨wc.heap.size, k, none⟩ = some v := by
                    rw [cells_of hr k]
                    exact ⟨_, by simp; exact List.getElem?_eq_getElem (by rw [part_len _ _ _ _ hk]; exact hlt)⟩
                  have f1 : wr.frozen? ⟨wc.heap.size, k, none⟩ = false := free_of hr k
                  have hkI : (k : Int) < (m : Int) := by omega
                  clear hr hkp
                  as_aux_lemma =>
                    go_wp2_with fail
                    go_roundw
                    case rel =>
                      refine ⟨k + 1, by omega, by go_num, ?_, HK.out.setNew (Nat.le_refl _) _⟩
                      unfold Rw
                      rw [set_of HR.out, ← part_set _ _ _ _ hlt]
                      simp
                    case measure => simp [intOf]; omega
                · have hkn : k = m := by omega
                  have HRL : Hid (Rw wr wc.heap.size 3 (tab (fun j => .int .i64 (lix (vsOf zs bs) 0 j)) m)) := by
                    have h := hr
                    rw [hkn, part_full, ← tab_rep] at h
                    exact h
                  have HSRD : Hid (Src wr a2 a3 g2 0 g3 0 (vsOf zs bs)) := HSRC.out.kept hkp
                  have hwcl : wc.heap.size < wr.heap.size := lt_of_block hr
                  clear hr hkp HR hkn
                  as_aux_lemma =>
                    go_wp2_with fail
                    go_loopw [18] (fun t wy => ∃ (d : Nat) (z : Int), d ≤ zs.length ∧ t = .int .i64 z ∧ z = (zs.length : Int) - 1 - d ∧ Rw wy wc.heap.size 3 (tab (fun j => .int .i64 (lix (vsOf zs bs) d j)) m) ∧ Kept [] wc wy) (fun t _ => (intOf t + 1).toNat)
                    case atStart => exact ⟨0, _, Nat.zero_le _, rfl, by go_num, HRL.out, HK.out⟩
                    case round =>
                      obtain ⟨d, z, hd, rfl, hz, hrn, hkp⟩ := hrel
                      have HRN : Hid (Rw wr wc.heap.size 3 (tab (fun j => .int .i64 (lix (vsOf zs bs) d j)) m)) := hrn
                      have HKP : Hid (Kept [] wc wr) := hkp
                      clear HRL HSRD hwcl HK
                      by_cases hlt : d < zs.length
                      · obtain ⟨i, rfl⟩ : ∃ i : Nat, z = (i : Int) := ⟨z.toNat, by omega⟩
                        have hi : i = (vsOf zs bs).length - (d + 1) := by rw [HLE.out]; omega
                        obtain ⟨v, hv⟩ : ∃ v, (vsOf zs bs)[i]? = some v := ⟨_, List.getElem?_eq_getElem (by rw [HLE.out]; omega)⟩
                        obtain rfl := HSRC.out.at1 (by rw [HLE.out]; omega)
                        have hvm := HVM.out v (List.mem_of_getElem? hv)
                        have e0 := HSRC.out.c1 i v hv
                        have e1 : wr.cell? ⟨g2, i, none⟩ = some (.int .i64 v.1) := by
                          have := hkp.cell e0 (by simp)
                          simpa using this
                        have e2 := hrn.cell hvm
                        have f2 : wr.frozen? ⟨wc.heap.size, v.1, none⟩ = false := free_of hrn v.1
                        have hiI : (i : Int) < (zs.length : Int) := by omega
                        have hi0 : (0 : Int) ≤ (i : Int) := by omega
                        have hvI : (v.1 : Int) < (m : Int) := by omega
                        have HV : Hid ((vsOf zs bs)[(vsOf zs bs).length - (d + 1)]? = some v) := by rw [← hi]; exact hv
                        have HI : Hid (i = (vsOf zs bs).length - (d + 1)) := hi
                        have HDL : Hid (d ≤ (vsOf zs bs).length) := by show _ ≤ _; rw [HLE.out]; omega
                        obtain ⟨q, hq⟩ : ∃ q, Hid (q = lix (vsOf zs bs) d v.1) := ⟨_, rfl⟩
                        rw [← hq.out] at e2
                        have HZ : Hid ((i : Int) = (zs.length : Int) - 1 - d) := hz
                        clear hrn hkp hv e0 hvm hi hz
                        as_aux_lemma =>
                          by_cases hl : q < 0
                          · go_wp2_with fail
                            go_roundw
                            case rel =>
                              refine ⟨d + 1, (i : Int) - 1, by omega, by go_num, by have := HZ.out; omega, ?_, HKP.out.setNew (Nat.le_refl _) _⟩
                              unfold Rw
                              rw [set_of HRN.out, ← lix_set HV.out HDL.out (by rw [← hq.out]; exact hl), ← HI.out]
                              simp
                            case measure => simp [intOf]
                          · go_wp2_with fail
                            go_roundw
                            case rel =>
                              refine ⟨d + 1, (i : Int) - 1, by omega, by go_num, by have := HZ.out; omega, ?_, HKP.out⟩
                              rw [← lix_stay HV.out HDL.out (by rw [← hq.out]; exact hl)]
                              exact HRN.out
                            case measure => simp [intOf]
                      · obtain rfl : z = -1 := by omega
                        have HRL : Hid (Rw wr wc.heap.size 3 (tab (fun j => .int .i64 (lastIx (vsOf zs bs) j)) m)) := by
                          have h := hrn
                          rw [show d = (vsOf zs bs).length from by rw [HLE.out]; omega] at h
                          exact h
                        have hsrc := HSRC.out.kept hkp
                        have HSR : Hid (Src wr a2 a3 g2 0 g3 0 (vsOf zs bs)) := hsrc
                        have HK : Hid (Kept [] w' wr) := HKZ.out.trans hkp
                        have HC1 : Hid (Calls Try.prog 11 #[.int .i64 line, .int .i64 cost, .slice a2 zs.length q2, .slice a3 bs.length q3] wr fun e w' => ∃ p gv, e = .returned (.pointer (some ⟨p, 0, none⟩)) ∧ IsStmt w' p gv line cost (vsOf zs bs) ∧ wr.heap.size ≤ p ∧ Kept [] wr w') := by
                          have := newStmt_any line cost a2 a3 g2 0 g3 0 q2 q3 (vsOf zs bs) wr hsrc
                          rw [HLE.out] at this
                          rw [HT5.out]
                          exact this
                        have HZB : Hid (zs.length = bs.length) := HT5.out.symm
                        clear hrn hkp HRN HKP hsrc hlt hz hd HSRC HKZ HOZ HOB hin
                        as_aux_lemma =>
                          go_wp2_with fail
                          refine HC1.out.mono ?_
                          rintro e w1 ⟨p1, gv1, rfl, hs1, hp1, hk1⟩
                          have HS1 : Hid (IsStmt w1 p1 gv1 line cost (vsOf zs bs)) := hs1
                          have HB1 : Hid (Below wr.heap.size wr w1) := hk1.below (Nat.le_refl _) (by simp)
                          clear hs1 hp1 hk1 HC1
                          go_wp2_with fail
                          refine (newState_any _).mono ?_
                          rintro e w4 ⟨rfl, hw4⟩
                          have HW4 : Hid (w4 = w1.alloc (.cells #[.int .i64 0, .int .i64 0, .int .i64 0, .int .i64 0, .bool false, .pointer none, .pointer none, .pointer none, .int .i64 0, .map none, .int .u64 0] 62)) := hw4
                          clear hw4
                          go_wp2_with fail
                          refine (newFrame_any m x w4 t4).mono ?_
                          rintro e w5 ⟨pf1, gs1, rfl, hf1, hr1, hpf1, hgs1, hk5⟩
                          have hk34 : Kept [] w1 w4 := by rw [HW4.out]; exact (Kept.refl _ _).alloc _
                          have h34 : w1.heap.size < w4.heap.size := by rw [HW4.out]; simp
                          have HF1 : Hid (FrX w5 w1.heap.size pf1 gs1 m x 0 0 (fun _ => none) (List.replicate m (fv x))) := frx_new HW4.out rfl hf1 hr1 hk5
                          have hk35 := hk34.trans hk5
                          have HS2 : Hid (IsStmt w5 p1 gv1 line cost (vsOf zs bs)) := HS1.out.kept0 hk35
                          have hsz1 := HB1.out.size
                          have HB5 : Hid (Below wr.heap.size wr w5) := HB1.out.trans (hk35.below hsz1 (by simp))
                          have hpf1' : w1.heap.size ≤ pf1 := by omega
                          have hgs1' : w1.heap.size ≤ gs1 := by omega
                          clear hf1 hr1 hk5 hk34 hk35 HS1 HW4 hpf1 hgs1 h34
                          go_wp2_with fail
                          refine (exec_frx p1 gv1 w1.heap.size pf1 gs1 m x line cost 0 0 (vsOf zs bs) _ _ w5 HS2.out HF1.out HVM.out t4 (by have := HLE.out; omega)).mono ?_
                          rw [HW.out]
                          rintro e w6 ⟨rfl, xs1, hfr6, hsl6, hst6, hk6⟩
                          have HF2 : Hid (FrX w6 w1.heap.size pf1 gs1 m x line cost (upd (fun _ => none) (vsOf zs bs)) xs1) := hfr6
                          have HS3 : Hid (IsStmt w6 p1 gv1 line cost (vsOf zs bs)) := hst6
                          have HB6 : Hid (Below wr.heap.size wr w6) := HB5.out.trans (hk6.below HB5.out.size (by simp; omega))
                          clear hfr6 hsl6 hst6 hk6 HS2 HB5 HF1
                          go_wp2_with fail
                          refine (line_fr _ _ _ _ _ _ _ _ w6 HF2.out.fr).mono ?_
                          rintro e w7 ⟨rfl, hw7⟩
                          subst hw7
                          go_wp2_with fail
                          refine (steps_fr _ _ _ _ _ _ _ _ w7 HF2.out.fr).mono ?_
                          rintro e w8 ⟨rfl, hw8⟩
                          subst hw8
                          go_wp2_with fail
                          refine (kinds_fr _ _ _ _ _ _ _ _ w8 HF2.out.fr t4).mono ?_
                          rintro e w9 ⟨ga, gb, rfl, hra, hrb, hga, hgb, hk9⟩
                          have HF3 : Hid (FrX w9 w1.heap.size pf1 gs1 m x line cost (upd (fun _ => none) (vsOf zs bs)) xs1) := HF2.out.kept0 hk9
                          have HS4 : Hid (IsStmt w9 p1 gv1 line cost (vsOf zs bs)) := HS3.out.kept0 hk9
                          have hb9 : Below wr.heap.size wr w9 := HB6.out.trans (hk9.below HB6.out.size (by simp))
                          have HB9 : Hid (Below wr.heap.size wr w9) := hb9
                          have HOK1 : Hid (Calls Try.prog 20 #[.slice (some ⟨ga, 0, none⟩) m m, .slice (some ⟨gb, 0, none⟩) m m, .slice (some ⟨wc.heap.size, 0, none⟩) m m, .slice a3 bs.length q3, .float .f64 x] w9 fun e w' => e = .returned (.bool true) ∧ w' = w9) := by
                            have := slotsOK_any ga gb wc.heap.size g3 m x q3 a3 (vsOf zs bs) w9 hra hrb (HRL.out.below hb9) (Cap.of (HSR.out.below hb9) q3) t4 (by have := HLE.out; omega)
                            rw [HLE.out, HZB.out] at this
                            exact this
                          clear hra hrb hga hgb hk9 HF2 HS3 HB6 hb9
                          go_wp2_with fail
                          refine HOK1.out.mono ?_
                          rintro e w10 ⟨rfl, hw10⟩
                          subst hw10
                          clear HOK1
                          go_wp2_with fail
                          refine (copyFrame_any pf1 gs1 m line xs1 w10 HF3.out.2.1 HF3.out.2.2.1 HF3.out.2.2.2.1 HF3.out.2.2.2.one t4).mono ?_
                          rintro e w11 ⟨pq, gq, rfl, hfq, hrq, hpq, hgq, hk11⟩
                          have HF4 : Hid (FrX w11 w1.heap.size pf1 gs1 m x line cost (upd (fun _ => none) (vsOf zs bs)) xs1) := HF3.out.kept0 hk11
                          have HS5 : Hid (IsStmt w11 p1 gv1 line cost (vsOf zs bs)) := HS4.out.kept0 hk11
                          have HB11 : Hid (Below wr.heap.size wr w11) := HB9.out.trans (hk11.below HB9.out.size (by simp))
                          have HFQ : Hid (IsFr w11 pq (.slice (some ⟨gq, 0, none⟩) m m) line) := hfq
                          have HRQ : Hid (IsRow w11 gq xs1) := hrq
                          have hlt10 := HF3.out.fr.lt
                          have HNP : Hid (pq ∉ [w1.heap.size, pf1, gs1] ∧ gq ∉ [w1.heap.size, pf1, gs1]) := by refine ⟨?_, ?_⟩ <;> simp <;> omega
                          clear hfq hrq hpq hgq hk11 HF3 HS4 HB9 hlt10
                          as_aux_lemma =>
                            go_wp2_with fail
                            refine (exec_frx p1 gv1 w1.heap.size pf1 gs1 m x line cost cost line (vsOf zs bs) _ _ w11 HS5.out HF4.out HVM.out t4 (by have := HLE.out; omega)).mono ?_
                            rw [upd_idem]
                            rintro e w12 ⟨rfl, xs2, hfr, hsl, hst, hk⟩
                            have HF5 : Hid (FrX w12 w1.heap.size pf1 gs1 m x line (wrap64 (cost + cost)) (upd (fun _ => none) (vsOf zs bs)) xs2) := hfr
                            have HTW : Hid (Two w12 pf1 gs1 pq gq m line (vsOf zs bs) xs2 xs1) := Two.of hfr HFQ.out HRQ.out HF4.out.2.2.2 hsl hk HNP.out (HF4.out.fr.other _ (by decide))
                            have HB12 : Hid (Below wr.heap.size wr w12) := HB11.out.trans (hk.below HB11.out.size (by simp; omega))
                            clear hfr hsl hst hk HF4 HS5 HB11 HFQ HRQ HNP
                            go_wp2_with fail
                            refine (line_fr _ _ _ _ _ _ _ _ w12 HF5.out.fr).mono ?_
                            rintro e w13 ⟨rfl, hw13⟩
                            subst hw13
                            go_wp2_with fail
                            refine (steps_fr _ _ _ _ _ _ _ _ w13 HF5.out.fr).mono ?_
                            rintro e w14 ⟨rfl, hw14⟩
                            subst hw14
                            go_wp2_with fail
                            refine (kinds_fr _ _ _ _ _ _ _ _ w14 HF5.out.fr t4).mono ?_
                            rintro e w15 ⟨ga2, gb2, rfl, hra, hrb, hga, hgb, hk15⟩
                            have hb15 : Below wr.heap.size wr w15 := HB12.out.trans (hk15.below HB12.out.size (by simp))
                            have HEND : Hid (End5 w15 wc.heap.size g3 q3 m a3 pf1 gs1 pq gq line (vsOf zs bs) xs2 xs1) := ⟨HTW.out.kept0 hk15, HRL.out.below hb15, Cap.of (HSR.out.below hb15) q3⟩
                            have HBE : Hid (Below w'.heap.size w' w15) := (HK.out.below (Nat.le_refl _) (by simp)).trans (hb15.mono HK.out.size)
                            have HOK2 : Hid (Calls Try.prog 20 #[.slice (some ⟨ga2, 0, none⟩) m m, .slice (some ⟨gb2, 0, none⟩) m m, .slice (some ⟨wc.heap.size, 0, none⟩) m m, .slice a3 bs.length q3, .float .f64 x] w15 fun e w' => e = .returned (.bool true) ∧ w' = w15) := by
                              have := slotsOK_any ga2 gb2 wc.heap.size g3 m x q3 a3 (vsOf zs bs) w15 hra hrb (HRL.out.below hb15) (Cap.of (HSR.out.below hb15) q3) t4 (by have := HLE.out; omega)
                              rw [HLE.out, HZB.out] at this
                              exact this
                            clear hra hrb hga hgb hk15 HF5 HB12 hb15 HTW HRL HSR HK
                            go_wp2_with fail
                            refine HOK2.out.mono ?_
                            rintro e w16 ⟨rfl, hw16⟩
                            subst hw16
                            clear HOK2
                            as_aux_lemma =>
                              go_wp2_with fail
                              go_loopw [27] (fun t wy => ∃ j : Nat, j ≤ m ∧ t = .int .i64 j ∧ wy = w16) (fun t _ => m - (intOf t).toNat)
                              case atStart => exact ⟨0, Nat.zero_le _, rfl, rfl⟩
                              case round =>
                                obtain ⟨j, hj, rfl, hwr⟩ := hrel
                                subst hwr
                                by_cases hjm : j < m
                                · have hjI : (j : Int) < (m : Int) := by omega
                                  have y3 := HEND.out.row.cell hjm
                                  by_cases hl : lastIx (vsOf zs bs) j < 0
                                  · obtain ⟨e1, e2⟩ := lastIx_neg hl
                                    rw [e1] at y3
                                    clear hl e1 e2
                                    go_wp2_with fail
                                    go_roundw
                                    case rel => exact ⟨j + 1, by omega, by go_num, by simp⟩
                                    case measure => simp [intOf]; omega
                                  · obtain ⟨k, v, e1, e2, e3, e4⟩ := lastIx_pos (by omega : 0 ≤ lastIx (vsOf zs bs) j)
                                    have hkl : k < (vsOf zs bs).length := (List.getElem?_eq_some_iff.1 e2).1
                                    have y4 := HEND.out.cap.cells k v e2
                                    obtain rfl := HEND.out.cap.at_ (by omega)
                                    have hkI : (k : Int) < (bs.length : Int) := by have := HLE.out; have := HT5.out; omega
                                    have hk0 : (0 : Int) ≤ (k : Int) := by omega
                                    rw [e1] at y3
                                    clear e1 e2 e3 hl hkl
                                    obtain ⟨v1, v2⟩ := v
                                    cases v2 with
                                    | false =>
                                      simp only at y4
                                      clear e4
                                      go_wp2_with fail
                                      go_roundw
                                      case rel => exact ⟨j + 1, by omega, by go_num, by simp⟩
                                      case measure => simp [intOf]; omega
                                    | true =>
                                      have HSC := HEND.out.call hjm e4
                                      have HSC' : Hid (Calls Try.prog 22 #[.pointer (some ⟨pf1, 0, none⟩), .int .i64 j, .pointer (some ⟨pq, 0, none⟩), .int .i64 j] wr fun e w' => e = .returned (.bool false) ∧ w' = wr) := HSC
                                      simp only at y4
                                      clear e4 HSC
                                      go_wp2_with fail
                                      refine HSC'.out.mono ?_
                                      rintro e w17 ⟨rfl, hw17⟩
                                      subst hw17
                                      go_wp2_with fail
                                      go_roundw
                                      case rel => exact ⟨j + 1, by omega, by go_num, by simp⟩
                                      case measure => simp [intOf]; omega
                                · go_wp2_with fail
                                  go_ret
                                  exact ⟨rfl, HBE.out⟩

end Go.Proofs.Qxb6616951a.A
