import Derived.Test.Qxb6616951aJ
import Derived.Deep.CutBlock
namespace Go.Proofs.Qxb6616951a.A
open Go.ChangeShapes Go.WideShapes Go.ChangeAt Go.RowKit
set_option linter.unusedVariables false

theorem info4 : (Try.prog.info? 4).map (fun i => (i.zero, i.size, i.bytes)) = some (some (.bool false), 1, 1) := by kernel_rfl

set_option maxRecDepth 100000 in
set_option maxHeartbeats 8000000 in
theorem law4_in (line c1 c2 : Int) (k0 m x : Nat) (a a' : Option Addr) (b off c b' off' c' : Nat) (zs : List Int) (bs : List Bool) (w : World)
    (h1 : InS w a b off c (zs.map (.int .i64))) (h2 : InS w a' b' off' c' (bs.map .bool))
    (t1 : zs.length ≤ 4096) (t2 : bs.length ≤ 4096) (t4 : m ≤ 4096) (t5 : bs.length = zs.length) (t7 : k0 ≤ zs.length) :
    Calls Try.prog 4 #[.int .i64 line, .int .i64 c1, .int .i64 c2, .slice a zs.length c, .slice a' bs.length c', .int .i64 k0, .int .i64 m, .float .f64 x] w fun e w' => e = .returned (.bool true) ∧ Below w.heap.size w w' := by
  have HB : Hid (Calls Try.prog 10 #[.int .i64 line, .int .i64 c1, .int .i64 c2, .slice a zs.length c, .slice a' bs.length c', .int .i64 k0, .int .i64 m, .float .f64 x] w fun e w' => (∃ r, e = .returned (.bool r)) ∧ w' = w) := bytes10_any _ _ _ _ _ _ a a' _ c _ c' w (by omega) (by omega)
  have H1 : Hid (InS w a b off c (zs.map (.int .i64))) := h1
  have H2 : Hid (InS w a' b' off' c' (bs.map .bool)) := h2
  clear h1 h2
  have t5' : ((bs.length : Int) != (zs.length : Int)) = false := by rw [bne_eq_false_iff_eq]; omega
  have HT5 : Hid (bs.length = zs.length) := t5
  clear t5
  obtain ⟨u1, hu1⟩ : ∃ u, Hid (u = !a.isNone) := ⟨_, rfl⟩
  obtain ⟨u2, hu2⟩ : ∃ u, Hid (u = !a'.isNone) := ⟨_, rfl⟩
  have he1 : ∀ (w : World), (binOp .neq 24 (.slice a zs.length c) (.slice none 0 0)).run Try.prog w = .ok (.bool u1) w := fun w => by rw [hu1.out]; exact run_neq_slice_nil_any w 24 3 a _ _ _ _ Try.underlying24
  have he2 : ∀ (w : World), (binOp .neq 25 (.slice a' bs.length c') (.slice none 0 0)).run Try.prog w = .ok (.bool u2) w := fun w => by rw [hu2.out]; exact run_neq_slice_nil_any w 25 4 a' _ _ _ _ Try.underlying25
  go_enter Try.func4, Try.ntmps4
  go_wp2_with fail
  refine HB.out.mono ?_
  rintro e w' ⟨⟨r, rfl⟩, rfl⟩
  cases r
  · go_wp2_with fail
    go_ret
    exact ⟨rfl, Below.refl _ _⟩
  go_upto_if 72 with fail
  go_cut [3] from 34 (fun s wx => ∃ a2 c2 g2, s = .slice a2 zs.length c2 ∧ OwnS wx 0 a2 g2 c2 (zs.map (.int .i64)) ∧ Kept [] w' wx)
  case first =>
    as_aux_lemma =>
      cases u1 with
      | false =>
        go_wp2_with fail
        go_meet
        have hn : a = none := by have h := hu1.out; cases a with | none => rfl | some _ => cases h
        obtain ⟨e1, e2⟩ := H1.out.nil hn
        exact ⟨a, c, 0, rfl, ⟨fun h => by rw [e1] at h; simp at h, fun i u hi => by rw [e1] at hi; simp at hi, by rw [e1]; simp, by omega, fun _ => e2⟩, Kept.refl _ _⟩
      | true =>
        have hmk := run_make_row' (P := Try.prog) 24 3 (.int .i64 0) 8 Try.underlying24 info3 rfl .i64 .i64 zs.length (by omega) (by omega)
        obtain ⟨w2, hcp, hrw, hkp⟩ := copied Try.underlying24 sz3 H1.out (.int .i64 0) 3
        rw [List.length_map] at hcp
        have HRW : Hid (Rw w2 w'.heap.size 3 (zs.map (.int .i64))) := hrw
        have HKP : Hid (Kept [] w' w2) := hkp
        clear hrw hkp
        go_wp2_with fail
        go_meet
        refine ⟨_, _, w'.heap.size, rfl, ?_, HKP.out⟩
        have := OwnS.of HRW.out (by simp; omega)
        rw [List.length_map] at this
        exact this
  case rest =>
    as_aux_lemma =>
      obtain ⟨a2, q2, g2, rfl, hoz, hkz⟩ := hcut
      have HOZ : Hid (OwnS wc 0 a2 g2 q2 (zs.map (.int .i64))) := hoz
      have HKZ : Hid (Kept [] w' wc) := hkz
      have H2' : Hid (InS wc a' b' off' c' (bs.map .bool)) := H2.out.kept hkz
      clear hoz hkz H1 H2 HB he1 hu1
      go_upto_if 81 with fail
      go_cut [4] from 34 (fun s wx => ∃ a3 q3 g3, s = .slice a3 bs.length q3 ∧ OwnS wx 0 a3 g3 q3 (bs.map .bool) ∧ OwnS wx 0 a2 g2 q2 (zs.map (.int .i64)) ∧ Kept [] w' wx)
      case first =>
        as_aux_lemma =>
          cases u2 with
          | false =>
            go_wp2_with fail
            go_meet
            have hn : a' = none := by have h := hu2.out; cases a' with | none => rfl | some _ => cases h
            obtain ⟨e1, e2⟩ := H2'.out.nil hn
            exact ⟨a', c', 0, rfl, ⟨fun h => by rw [e1] at h; simp at h, fun i u hi => by rw [e1] at hi; simp at hi, by rw [e1]; simp, by omega, fun _ => e2⟩, HOZ.out, HKZ.out⟩
          | true =>
            have hmk := run_make_row' (P := Try.prog) 25 4 (.bool false) 1 Try.underlying25 info4 rfl .i64 .i64 bs.length (by omega) (by omega)
            obtain ⟨w2, hcp, hrw, hkp⟩ := copied Try.underlying25 sz4 H2'.out (.bool false) 3
            rw [List.length_map] at hcp
            have HRW : Hid (Rw w2 wc.heap.size 4 (bs.map .bool)) := hrw
            have HKP : Hid (Kept [] wc w2) := hkp
            clear hrw hkp
            go_wp2_with fail
            go_meet
            refine ⟨_, _, wc.heap.size, rfl, ?_, HOZ.out.kept HKP.out, HKZ.out.trans HKP.out⟩
            have := OwnS.of HRW.out (by simp; omega)
            rw [List.length_map] at this
            exact this
      case rest =>
        as_aux_lemma =>
          obtain ⟨a3, q3, g3, rfl, hob, hoz, hkz⟩ := hcut
          clear HOZ HKZ H2' he2 hu2
          have HOZ : Hid (OwnS wc 0 a2 g2 q2 (zs.map (.int .i64))) := hoz
          have HOB : Hid (OwnS wc 0 a3 g3 q3 (bs.map .bool)) := hob
          have HKZ : Hid (Kept [] w' wc) := hkz
          clear hoz hkz hob
          go_upto_block 0 with fail
          go_cut [19] from 34 (fun _ wx => Hid (∀ z ∈ zs, 0 ≤ z ∧ z < m) ∧ wc = wx)
          case first =>
            as_aux_lemma =>
              go_wp2_with fail
              go_loopw [19] (fun t wr => ∃ k : Nat, k ≤ zs.length ∧ t = .int .i64 k ∧ (∀ i z, i < k → zs[i]? = some z → 0 ≤ z ∧ z < m) ∧ wr = wc) (fun t _ => zs.length - (intOf t).toNat)
              case atStart => exact ⟨0, Nat.zero_le _, rfl, fun i z hi => by omega, rfl⟩
              case round =>
                obtain ⟨k, hk, rfl, hall, hwr⟩ := hrel
                subst hwr
                have HALL : Hid (∀ i z, i < k → zs[i]? = some z → 0 ≤ z ∧ z < m) := hall
                clear hall
                by_cases hlt : k < zs.length
                · obtain rfl := HOZ.out.at_ (by simp; omega)
                  obtain ⟨z, hzk⟩ : ∃ z, zs[k]? = some z := ⟨_, List.getElem?_eq_getElem hlt⟩
                  have d1 := HOZ.out.cells k (.int .i64 z) (by simp [hzk])
                  have hkI : (k : Int) < (zs.length : Int) := by omega
                  have HZK : Hid (zs[k]? = some z) := hzk
                  clear hzk
                  by_cases z1 : z < 0
                  · go_wp2_with fail
                    go_ret
                    exact ⟨rfl, HKZ.out.below (Nat.le_refl _) (by simp)⟩
                  by_cases z2 : (m : Int) ≤ z
                  · go_wp2_with fail
                    go_ret
                    exact ⟨rfl, HKZ.out.below (Nat.le_refl _) (by simp)⟩
                  go_wp2_with fail
                  go_roundw
                  case rel =>
                    refine ⟨k + 1, by omega, by go_num, fun i y hi hy => ?_, by simp⟩
                    by_cases e : i = k
                    · subst e
                      rw [HZK.out] at hy
                      injection hy with hy
                      omega
                    · exact HALL.out i y (by omega) hy
                  case measure => simp [intOf]; omega
                · go_wp2_with fail
                  go_meet
                  refine ⟨fun z hzm => ?_, rfl⟩
                  obtain ⟨i, hi⟩ := List.getElem?_of_mem hzm
                  exact HALL.out i z (by have := (List.getElem?_eq_some_iff.1 hi).1; omega) hi
          case rest =>
            as_aux_lemma =>
              obtain ⟨hin, hww⟩ := hcut
              subst hww
              have hle := vsOf_len HT5.out
              have hsrc := src_of HOZ.out HOB.out HT5.out t1 (fun z hz => (hin.out z hz).1)
              have hvm : ∀ v ∈ vsOf zs bs, v.1 < m := fun v hv => by
                obtain ⟨i, hi⟩ := List.getElem?_of_mem hv
                obtain ⟨z, e1, e2, e3⟩ := vsOf_at hi
                have := hin.out z (List.mem_of_getElem? e1)
                omega
              have HSRC : Hid (Src wc a2 a3 g2 0 g3 0 (vsOf zs bs)) := hsrc
              have HVM : Hid (∀ v ∈ vsOf zs bs, v.1 < m) := hvm
              have HLE : Hid ((vsOf zs bs).length = zs.length) := hle
              have HC1 : Hid (Calls Try.prog 11 #[.int .i64 line, .int .i64 (wrap64 (c1 + c2)), .slice a2 zs.length q2, .slice a3 bs.length q3] wc fun e w' => ∃ p gv, e = .returned (.pointer (some ⟨p, 0, none⟩)) ∧ IsStmt w' p gv line (wrap64 (c1 + c2)) (vsOf zs bs) ∧ wc.heap.size ≤ p ∧ Kept [] wc w') := by
                have := newStmt_any line (wrap64 (c1 + c2)) a2 a3 g2 0 g3 0 q2 q3 (vsOf zs bs) wc hsrc
                rw [hle] at this
                rw [HT5.out]
                exact this
              clear hsrc hvm hle
              go_wp2_with fail
              refine HC1.out.mono ?_
              rintro e w1 ⟨p1, gv1, rfl, hs1, hp1, hk1⟩
              have HS1 : Hid (IsStmt w1 p1 gv1 line (wrap64 (c1 + c2)) (vsOf zs bs)) := hs1
              have HK1 : Hid (Kept [] w' w1) := HKZ.out.trans hk1
              have HR1 : Hid (Src w1 a2 a3 g2 0 g3 0 (vsOf zs bs)) := HSRC.out.kept hk1
              clear hs1 hp1 hk1 HC1 HSRC
              have hq2 : (k0 : Int) ≤ (q2 : Int) := by have := HOZ.out.le; simp at this; omega
              have hq3 : (k0 : Int) ≤ (q3 : Int) := by have := HOB.out.le; have := HT5.out; simp at *; omega
              have hk0 : (0 : Int) ≤ (k0 : Int) := by omega
              have hq2' := HOZ.out.cle
              have hq3' := HOB.out.cle
              have HTL : Hid (((vsOf zs bs).take k0).length = k0) := by show _ = _; rw [List.length_take, HLE.out]; omega
              have HC2 : Hid (Calls Try.prog 11 #[.int .i64 line, .int .i64 c1, .slice a2 k0 q2, .slice a3 k0 q3] w1.drew fun e wx => ∃ p gv, e = .returned (.pointer (some ⟨p, 0, none⟩)) ∧ IsStmt wx p gv line c1 ((vsOf zs bs).take k0) ∧ w1.drew.heap.size ≤ p ∧ Kept [] w1.drew wx) := by
                have := newStmt_any line c1 a2 a3 g2 0 g3 0 q2 q3 ((vsOf zs bs).take k0) w1.drew ((HR1.out.take k0).kept (Kept.refl _ _).drew)
                rw [HTL.out] at this
                exact this
              go_wp2_with fail
              go_region_held3 (fun x => True) (trivial) ((go_at_call 11; refine HC2.out.mono ?_; rintro e w2 ⟨p2, gv2, rfl, hs2, hp2, hk2⟩))
              have HS2 : Hid (IsStmt w2 p2 gv2 line c1 ((vsOf zs bs).take k0)) := hs2
              have hk2' : Kept [] w1 w2 := (Kept.refl _ w1).drew.trans hk2
              have HS1b : Hid (IsStmt w2 p1 gv1 line (wrap64 (c1 + c2)) (vsOf zs bs)) := HS1.out.kept0 hk2'
              have HK2 : Hid (Kept [] w' w2) := HK1.out.trans hk2'
              have HR2 : Hid (Src w2 a2 a3 g2 0 g3 0 (vsOf zs bs)) := HR1.out.kept hk2'
              clear hs2 hp2 hk2 hk2' HC2 HS1 HR1 HK1
              obtain ⟨a2b, hsl2, ha2b⟩ := slice_from Try.underlying24 sz3 a2 zs.length q2 k0 t7 (by have := HOZ.out.le; simpa using this) hq2'
              obtain ⟨a3b, hsl3, ha3b⟩ := slice_from Try.underlying25 sz4 a3 bs.length q3 k0 (by have := HT5.out; omega) (by have := HOB.out.le; simpa using this) hq3'
              have HDL : Hid (((vsOf zs bs).drop k0).length = zs.length - k0) := by show _ = _; rw [List.length_drop, HLE.out]
              have HC3 : Hid (Calls Try.prog 11 #[.int .i64 line, .int .i64 c2, .slice a2b (zs.length - k0) (q2 - k0), .slice a3b (bs.length - k0) (q3 - k0)] w2.drew fun e wx => ∃ p gv, e = .returned (.pointer (some ⟨p, 0, none⟩)) ∧ IsStmt wx p gv line c2 ((vsOf zs bs).drop k0) ∧ w2.drew.heap.size ≤ p ∧ Kept [] w2.drew wx) := by
                have hsr := ((HR2.out.drop k0 (a2 := a2b) (a2' := a3b) (fun h => ha2b g2 (fun _ => HR2.out.at1 (by omega)) (by have := HLE.out; omega)) (fun h => ha3b g3 (fun _ => HR2.out.at2 (by omega)) (by have := HLE.out; have := HT5.out; omega))).kept (Kept.refl _ w2).drew)
                have := newStmt_any line c2 a2b a3b g2 k0 g3 k0 (q2 - k0) (q3 - k0) ((vsOf zs bs).drop k0) w2.drew hsr
                rw [HDL.out] at this
                rw [HT5.out]
                exact this
              clear ha2b ha3b
              go_wp2_with fail
              go_region_held3 (fun x => True) (trivial) ((go_at_call 11; refine HC3.out.mono ?_; rintro e w3 ⟨p3, gv3, rfl, hs3, hp3, hk3⟩))
              have HS3 : Hid (IsStmt w3 p3 gv3 line c2 ((vsOf zs bs).drop k0)) := hs3
              have hk3' : Kept [] w2 w3 := (Kept.refl _ w2).drew.trans hk3
              have HS1c : Hid (IsStmt w3 p1 gv1 line (wrap64 (c1 + c2)) (vsOf zs bs)) := HS1b.out.kept0 hk3'
              have HS2c : Hid (IsStmt w3 p2 gv2 line c1 ((vsOf zs bs).take k0)) := HS2.out.kept0 hk3'
              have HR3 : Hid (Src w3 a2 a3 g2 0 g3 0 (vsOf zs bs)) := HR2.out.kept hk3'
              have HK3 : Hid (Kept [] w' w3) := HK2.out.trans hk3'
              clear hs3 hp3 hk3 hk3' HC3 HS1b HS2 HR2 HK2 hsl2 hsl3
              as_aux_lemma =>
                go_wp2_with fail
                refine (newState_any _).mono ?_
                rintro e w4 ⟨rfl, hw4⟩
                have HW4 : Hid (w4 = w3.alloc (.cells #[.int .i64 0, .int .i64 0, .int .i64 0, .int .i64 0, .bool false, .pointer none, .pointer none, .pointer none, .int .i64 0, .map none, .int .u64 0] 62)) := hw4
                clear hw4
                go_wp2_with fail
                refine (newFrame_any m x w4 t4).mono ?_
                rintro e w5 ⟨pf1, gs1, rfl, hf1, hr1, hpf1, hgs1, hk5⟩
                have hk34 : Kept [] w3 w4 := by rw [HW4.out]; exact (Kept.refl _ _).alloc _
                have h34 : w3.heap.size < w4.heap.size := by rw [HW4.out]; simp
                have HF1 : Hid (Fr w5 w3.heap.size pf1 gs1 m x 0 0 (fun _ => none)) := fr_new HW4.out rfl hf1 hr1 hk5
                have hk35 := hk34.trans hk5
                have HS1d : Hid (IsStmt w5 p1 gv1 line (wrap64 (c1 + c2)) (vsOf zs bs)) := HS1c.out.kept0 hk35
                have HS2d : Hid (IsStmt w5 p2 gv2 line c1 ((vsOf zs bs).take k0)) := HS2c.out.kept0 hk35
                have HS3d : Hid (IsStmt w5 p3 gv3 line c2 ((vsOf zs bs).drop k0)) := HS3.out.kept0 hk35
                have HB5 : Hid (Below w3.heap.size w3 w5) := hk35.below (Nat.le_refl _) (by simp)
                have hpf1' : w3.heap.size ≤ pf1 := by omega
                have hgs1' : w3.heap.size ≤ gs1 := by omega
                clear hf1 hr1 hk5 hk34 hk35 HS1c HS2c HS3 HW4 hpf1 hgs1 h34
                go_wp2_with fail
                refine (exec_fr p1 gv1 w3.heap.size pf1 gs1 m x line (wrap64 (c1 + c2)) 0 0 (vsOf zs bs) _ w5 HS1d.out HF1.out HVM.out t4 (by have := HLE.out; omega)).mono ?_
                rw [wrap_a]
                rintro e w6 ⟨rfl, hfr6, hst6, hk6⟩
                have HF1b : Hid (Fr w6 w3.heap.size pf1 gs1 m x line (wrap64 (c1 + c2)) (upd (fun _ => none) (vsOf zs bs))) := hfr6
                have HS2e : Hid (IsStmt w6 p2 gv2 line c1 ((vsOf zs bs).take k0)) := HS2d.out.kept hk6 (HF1.out.other _ (by decide))
                have HS3e : Hid (IsStmt w6 p3 gv3 line c2 ((vsOf zs bs).drop k0)) := HS3d.out.kept hk6 (HF1.out.other _ (by decide))
                have HB6 : Hid (Below w3.heap.size w3 w6) := HB5.out.trans (hk6.below HB5.out.size (by simp; omega))
                clear hfr6 hst6 hk6 HS1d HS2d HS3d HB5 HF1
                as_aux_lemma =>
                  go_wp2_with fail
                  refine (newState_any _).mono ?_
                  rintro e w7 ⟨rfl, hw7⟩
                  have HW7 : Hid (w7 = w6.alloc (.cells #[.int .i64 0, .int .i64 0, .int .i64 0, .int .i64 0, .bool false, .pointer none, .pointer none, .pointer none, .int .i64 0, .map none, .int .u64 0] 62)) := hw7
                  clear hw7
                  go_wp2_with fail
                  refine (newFrame_any m x w7 t4).mono ?_
                  rintro e w8 ⟨pf2, gs2, rfl, hf2, hr2, hpf2, hgs2, hk8⟩
                  have hk67 : Kept [] w6 w7 := by rw [HW7.out]; exact (Kept.refl _ _).alloc _
                  have h67 : w6.heap.size < w7.heap.size := by rw [HW7.out]; simp
                  have HF2 : Hid (Fr w8 w6.heap.size pf2 gs2 m x 0 0 (fun _ => none)) := fr_new HW7.out rfl hf2 hr2 hk8
                  have hk68 := hk67.trans hk8
                  have HF1c : Hid (Fr w8 w3.heap.size pf1 gs1 m x line (wrap64 (c1 + c2)) (upd (fun _ => none) (vsOf zs bs))) := HF1b.out.kept0 hk68
                  have HS2f : Hid (IsStmt w8 p2 gv2 line c1 ((vsOf zs bs).take k0)) := HS2e.out.kept0 hk68
                  have HS3f : Hid (IsStmt w8 p3 gv3 line c2 ((vsOf zs bs).drop k0)) := HS3e.out.kept0 hk68
                  have HB8 : Hid (Below w3.heap.size w3 w8) := HB6.out.trans (hk68.below HB6.out.size (by simp))
                  have hl6 := HF1b.out.lt
                  have h36 := HB6.out.size
                  have hpf2' : w6.heap.size < pf2 := by omega
                  have hgs2' : w6.heap.size < gs2 := by omega
                  clear hf2 hr2 hk8 hk67 hk68 HS2e HS3e HW7 hpf2 hgs2 h67 HF1b HB6
                  go_wp2_with fail
                  refine (exec_fr p2 gv2 w6.heap.size pf2 gs2 m x line c1 0 0 ((vsOf zs bs).take k0) _ w8 HS2f.out HF2.out (fun v hv => HVM.out v (List.mem_of_mem_take hv)) t4 (by have := HLE.out; simp; omega)).mono ?_
                  rintro e w9 ⟨rfl, hfr9, hst9, hk9⟩
                  have HF2b : Hid (Fr w9 w6.heap.size pf2 gs2 m x line (wrap64 (0 + c1)) (upd (fun _ => none) ((vsOf zs bs).take k0))) := hfr9
                  have HF1d : Hid (Fr w9 w3.heap.size pf1 gs1 m x line (wrap64 (c1 + c2)) (upd (fun _ => none) (vsOf zs bs))) := HF1c.out.kept hk9 (by simp; omega) (by simp; omega) (by simp; omega) (HF2.out.other _ (by decide))
                  have HS3g : Hid (IsStmt w9 p3 gv3 line c2 ((vsOf zs bs).drop k0)) := HS3f.out.kept hk9 (HF2.out.other _ (by decide))
                  have HB9 : Hid (Below w3.heap.size w3 w9) := HB8.out.trans (hk9.below HB8.out.size (by simp; omega))
                  clear hfr9 hst9 hk9 HS2f HS3f HB8 HF2 HF1c
                  go_wp2_with fail
                  refine (exec_fr p3 gv3 w6.heap.size pf2 gs2 m x line c2 (wrap64 (0 + c1)) line ((vsOf zs bs).drop k0) _ w9 HS3g.out HF2b.out (fun v hv => HVM.out v (List.mem_of_mem_drop hv)) t4 (by have := HLE.out; simp; omega)).mono ?_
                  rw [wrap_b, upd_upd, List.take_append_drop]
                  rintro e w10 ⟨rfl, hfr10, hst10, hk10⟩
                  have HF2c : Hid (Fr w10 w6.heap.size pf2 gs2 m x line (wrap64 (c1 + c2)) (upd (fun _ => none) (vsOf zs bs))) := hfr10
                  have HF1e : Hid (Fr w10 w3.heap.size pf1 gs1 m x line (wrap64 (c1 + c2)) (upd (fun _ => none) (vsOf zs bs))) := HF1d.out.kept hk10 (by simp; omega) (by simp; omega) (by simp; omega) (HF2b.out.other _ (by decide))
                  have HB10 : Hid (Below w3.heap.size w3 w10) := HB9.out.trans (hk10.below HB9.out.size (by simp; omega))
                  clear hfr10 hst10 hk10 HS3g HB9 HF2b HF1d
                  as_aux_lemma =>
                    go_wp2_with fail
                    refine (steps_fr _ _ _ _ _ _ _ _ w10 HF1e.out).mono ?_
                    rintro e w11 ⟨rfl, hw11⟩
                    subst hw11
                    go_wp2_with fail
                    refine (steps_fr _ _ _ _ _ _ _ _ w11 HF2c.out).mono ?_
                    rintro e w12 ⟨rfl, hw12⟩
                    subst hw12
                    go_wp2_with fail
                    refine (line_fr _ _ _ _ _ _ _ _ w12 HF1e.out).mono ?_
                    rintro e w13 ⟨rfl, hw13⟩
                    subst hw13
                    go_wp2_with fail
                    refine (line_fr _ _ _ _ _ _ _ _ w13 HF2c.out).mono ?_
                    rintro e w14 ⟨rfl, hw14⟩
                    subst hw14
                    go_wp2_with fail
                    refine (kinds_fr _ _ _ _ _ _ _ _ w14 HF1e.out t4).mono ?_
                    rintro e w15 ⟨ga, gb, rfl, hra, hrb, hga, hgb, hk15⟩
                    have HRA : Hid (Rw w15 ga 3 (tab (fun j => .int .i64 (kind (upd (fun _ => none) (vsOf zs bs) j))) m)) := hra
                    have HRB : Hid (Rw w15 gb 26 (tab (fun j => .float .f64 (num (upd (fun _ => none) (vsOf zs bs) j) x)) m)) := hrb
                    have HF2d : Hid (Fr w15 w6.heap.size pf2 gs2 m x line (wrap64 (c1 + c2)) (upd (fun _ => none) (vsOf zs bs))) := HF2c.out.kept0 hk15
                    have HB15 : Hid (Below w3.heap.size w3 w15) := HB10.out.trans (hk15.below HB10.out.size (by simp))
                    clear hra hrb hga hgb hk15 HF2c HF1e HB10
                    go_wp2_with fail
                    refine (kinds_fr _ _ _ _ _ _ _ _ w15 HF2d.out t4).mono ?_
                    rintro e w16 ⟨ga2, gb2, rfl, hra2, hrb2, hga2, hgb2, hk16⟩
                    have HRA2 : Hid (Rw w16 ga2 3 (tab (fun j => .int .i64 (kind (upd (fun _ => none) (vsOf zs bs) j))) m)) := hra2
                    have HRB2 : Hid (Rw w16 gb2 26 (tab (fun j => .float .f64 (num (upd (fun _ => none) (vsOf zs bs) j) x)) m)) := hrb2
                    have HRA1 : Hid (Rw w16 ga 3 (tab (fun j => .int .i64 (kind (upd (fun _ => none) (vsOf zs bs) j))) m)) := HRA.out.kept hk16 (by simp)
                    have HRB1 : Hid (Rw w16 gb 26 (tab (fun j => .float .f64 (num (upd (fun _ => none) (vsOf zs bs) j) x)) m)) := HRB.out.kept hk16 (by simp)
                    have HB16 : Hid (Below w3.heap.size w3 w16) := HB15.out.trans (hk16.below HB15.out.size (by simp))
                    clear hra2 hrb2 hga2 hgb2 hk16 HF2d HB15 HRA HRB
                    as_aux_lemma =>
                      have hmk := run_make_row' (P := Try.prog) 25 4 (.bool false) 1 Try.underlying25 info4 rfl .i64 .i64 m (by omega) (by omega)
                      go_wp2_with fail
                      have h316 := HB16.out.size
                      go_loopw [32] (fun t wr => ∃ k : Nat, k ≤ zs.length ∧ t = .int .i64 k ∧ Rw wr w16.heap.size 4 (tab (nmd (vsOf zs bs) k) m) ∧ Kept [] w16 wr) (fun t _ => zs.length - (intOf t).toNat)
                      case atStart =>
                        refine ⟨0, Nat.zero_le _, rfl, ?_, (Kept.refl _ _).alloc _⟩
                        unfold Rw
                        rw [heap_alloc_new, made_list, ← tab_rep]
                        rfl
                      case round =>
                        obtain ⟨k, hk, rfl, hrn, hkp⟩ := hrel
                        have HRN : Hid (Rw wr w16.heap.size 4 (tab (nmd (vsOf zs bs) k) m)) := hrn
                        have HKP : Hid (Kept [] w16 wr) := hkp
                        by_cases hlt : k < zs.length
                        · obtain ⟨v, hv⟩ : ∃ v, (vsOf zs bs)[k]? = some v := ⟨_, List.getElem?_eq_getElem (by rw [HLE.out]; exact hlt)⟩
                          obtain rfl := HR3.out.at1 (by rw [HLE.out]; omega)
                          have hvm := HVM.out v (List.mem_of_getElem? hv)
                          have hbw : Below w3.heap.size w3 wr := HB16.out.trans (hkp.below h316 (by simp))
                          have e0 := HR3.out.c1 k v hv
                          have hg2l : g2 < w3.heap.size := World.block_lt_of_cell? _ _ e0
                          have e1 : wr.cell? ⟨g2, k, none⟩ = some (.int .i64 v.1) := by
                            rw [hbw.cell (p := ⟨g2, k, none⟩) hg2l]; simpa using e0
                          have e2 := hrn.cell hvm
                          have f2 : wr.frozen? ⟨w16.heap.size, v.1, none⟩ = false := free_of hrn v.1
                          have hkI : (k : Int) < (zs.length : Int) := by omega
                          have hvI : (v.1 : Int) < (m : Int) := by omega
                          have HV : Hid ((vsOf zs bs)[k]? = some v) := hv
                          clear hrn hkp hv hbw e0 hvm
                          as_aux_lemma =>
                            go_wp2_with fail
                            go_roundw
                            case rel =>
                              refine ⟨k + 1, by omega, by go_num, ?_, HKP.out.setNew (Nat.le_refl _) _⟩
                              unfold Rw
                              rw [set_of HRN.out, ← nmd_step HV.out]
                              simp
                            case measure => simp [intOf]; omega
                        · have hkn : k = (vsOf zs bs).length := by rw [HLE.out]; omega
                          have HR4 : Hid (Rw wr w16.heap.size 4 (tab (fun j => .bool (lastOf (vsOf zs bs) j).isSome) m)) := by
                            have h := hrn
                            rw [hkn] at h
                            rw [tab_congr (g := fun j => .bool (lastOf (vsOf zs bs) j).isSome) (fun j _ => by unfold nmd; rw [List.take_of_length_le (Nat.le_refl _)])] at h
                            exact h
                          have HA1 : Hid (Rw wr ga 3 (tab (fun j => .int .i64 (kind (upd (fun _ => none) (vsOf zs bs) j))) m)) := HRA1.out.kept hkp (by simp)
                          have HA2 : Hid (Rw wr ga2 3 (tab (fun j => .int .i64 (kind (upd (fun _ => none) (vsOf zs bs) j))) m)) := HRA2.out.kept hkp (by simp)
                          have HB1 : Hid (Rw wr gb 26 (tab (fun j => .float .f64 (num (upd (fun _ => none) (vsOf zs bs) j) x)) m)) := HRB1.out.kept hkp (by simp)
                          have HB2 : Hid (Rw wr gb2 26 (tab (fun j => .float .f64 (num (upd (fun _ => none) (vsOf zs bs) j) x)) m)) := HRB2.out.kept hkp (by simp)
                          have HBE : Hid (Below w'.heap.size w' wr) := (HK3.out.below (Nat.le_refl _) (by simp)).trans ((HB16.out.trans (hkp.below h316 (by simp))).mono HK3.out.size)
                          clear hrn hkp HRN HKP HRA1 HRA2 HRB1 HRB2 hkn
                          as_aux_lemma =>
                            go_wp2_with fail
                            go_loopw [33] (fun t wy => ∃ j n : Nat, j ≤ m ∧ t = .int .i64 j ∧ wy = World.drewN wr n) (fun t _ => m - (intOf t).toNat)
                            case atStart => exact ⟨0, 0, Nat.zero_le _, rfl, rfl⟩
                            case round =>
                              obtain ⟨j, n, hj, rfl, rfl⟩ := hrel
                              by_cases hjm : j < m
                              · have hjI : (j : Int) < (m : Int) := by omega
                                have y1 := HA1.out.cell hjm
                                have y2 := HA2.out.cell hjm
                                have y3 := HB1.out.cell hjm
                                have y4 := HB2.out.cell hjm
                                have y5 := HR4.out.cell hjm
                                simp only [upd] at y1 y2 y3 y4
                                cases hl : lastOf (vsOf zs bs) j with
                                | none =>
                                  rw [hl] at y1 y2 y3 y4 y5
                                  simp only [kind, num, Option.isSome] at y1 y2 y3 y4 y5
                                  have HSM : Hid (∀ q, Calls Try.prog 18 #[.float .f64 x, .float .f64 x] q fun e w' => e = .returned (.bool true) ∧ w' = q) := fun q => same_any x q
                                  go_wp2_with fail
                                  go_quiet (fail)
                                  go_wp2_with (go_at_call 18; refine (HSM.out _).mono ?_; rintro e wq ⟨rfl, rfl⟩)
                                  go_roundw
                                  case rel => exact ⟨j + 1, n + nq, by omega, by go_num, by simp⟩
                                  case measure => simp [intOf]; omega
                                | some cc =>
                                  rw [hl] at y1 y2 y3 y4 y5
                                  cases cc
                                  all_goals
                                    simp only [kind, num, Option.isSome] at y1 y2 y3 y4 y5
                                    go_wp2_with fail
                                    go_quiet (fail)
                                    go_wp2_with fail
                                    go_roundw
                                    case rel => exact ⟨j + 1, n + nq, by omega, by go_num, by simp⟩
                                    case measure => simp [intOf]; omega
                              · go_wp2_with fail
                                go_ret
                                exact ⟨rfl, HBE.out.trans ⟨rfl, rfl, rfl, Nat.le_refl _, fun _ _ => rfl⟩⟩

end Go.Proofs.Qxb6616951a.A
