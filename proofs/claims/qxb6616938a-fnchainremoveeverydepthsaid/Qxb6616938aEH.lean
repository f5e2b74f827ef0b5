import Derived.Test.Qxb6616938aEG
namespace Go.Proofs.Qxb6616938a.A
open Go.ChangeShapes Go.WideShapes Go.ChangeAt Go.RowKit Go.Sort
set_option linter.unusedVariables false

set_option maxRecDepth 100000 in
set_option maxHeartbeats 8000000 in
/-- FnChainRemoveDepthExact -/
theorem law3 (sup : Int) (a a2 : Option Addr) (g off c g2 off2 c2 : Nat) (ks : List Int) (dss : List (List Nat)) (k : Int) (q : Nat) (w : World) (hs : Sl w a g off (ks.map (.int .i32))) (hs2 : SS w a2 g2 off2 dss) (hks : ∀ k ∈ ks, I32 k) (hk : I32 k)
    (hds : ∀ (j : Nat) (ds : List Nat), dss[j]? = some ds → ∀ x ∈ ds, x < 4294967296) :
    Calls Try.prog 3 #[.int .i64 sup, .slice a ks.length c, .slice a2 dss.length c2, .int .i32 k, .int .u32 q] w fun e w' => e = .returned (.bool true) ∧ Below w.heap.size w w' := by
  have HB : Hid (Calls Try.prog 5 #[.int .i64 sup, .slice a ks.length c, .slice a2 dss.length c2, .int .i32 k, .int .u32 q] w fun e w' => Ret e True ∧ w' = w) := bytes3 sup k a a2 _ c g2 off2 c2 dss q w hs2
  have HZ : Hid (Calls Try.prog 6 #[.slice a ks.length c, .slice a2 dss.length c2] w fun e w' => Ret e (SizeFit ks.length dss) ∧ w' = w) := sizeOK_any a a2 _ c g2 off2 c2 dss w hs2
  have HS : Hid (Sl w a g off (ks.map (.int .i32))) := hs
  have HS2 : Hid (SS w a2 g2 off2 dss) := hs2
  have HKS : Hid (∀ k ∈ ks, I32 k) := hks
  have HDS : Hid (∀ (j : Nat) (ds : List Nat), dss[j]? = some ds → ∀ x ∈ ds, x < 4294967296) := hds
  have HK : Hid (I32 k) := hk
  clear hs hs2 hks hds hk
  go_enter Try.func3, Try.ntmps3
  go_wp2_with fail
  refine HB.out.mono ?_
  rintro e w1 ⟨⟨r, rfl, _⟩, hw1⟩
  subst hw1
  clear HB
  cases r
  · go_wp2_with fail
    go_ret
    exact ⟨rfl, Below.refl _ _⟩
  go_wp2_with fail
  refine HZ.out.mono ?_
  rintro e w2 ⟨⟨r, rfl, hfit⟩, hw2⟩
  subst hw2
  clear HZ
  cases r
  · go_wp2_with fail
    go_ret
    exact ⟨rfl, Below.refl _ _⟩
  have HF : Hid (SizeFit ks.length dss) := hfit rfl
  obtain ⟨hf1, hf2, _⟩ := hfit rfl
  clear hfit
  by_cases hn : ¬ ks.length = dss.length
  · have hnb : ((ks.length : Int) != (dss.length : Int)) = true := by rw [bne_iff_ne]; omega
    go_wp2_with fail
    go_ret
    exact ⟨rfl, Below.refl _ _⟩
  have hn : ks.length = dss.length := Decidable.not_not.1 hn
  have HN : Hid (ks.length = dss.length) := hn
  have hnb : ((ks.length : Int) != (dss.length : Int)) = false := by rw [bne_eq_false_iff_eq]; omega
  clear hn
  go_wp2_with fail
  go_loopw [11] (fun t wr => ∃ i n0 : Nat, i ≤ dss.length ∧ t = .int .i64 i ∧ (∀ (j : Nat) (ds : List Nat), j < i → dss[j]? = some ds → IncTo ds ds.length) ∧ wr = w2.drewN n0) (fun t _ => dss.length - (intOf t).toNat)
  case atStart => exact ⟨0, 0, Nat.zero_le _, rfl, fun j ds hj => by omega, rfl⟩
  case round =>
    obtain ⟨i, n0, hi, rfl, ha, rfl⟩ := hrel
    have HA : Hid (∀ (j : Nat) (ds : List Nat), j < i → dss[j]? = some ds → IncTo ds ds.length) := ha
    clear ha
    by_cases hlt : i < dss.length
    · obtain rfl := HS2.out.at_ (by omega)
      obtain ⟨ds, hd⟩ : ∃ d, dss[i]? = some d := ⟨_, List.getElem?_eq_getElem hlt⟩
      obtain ⟨a', g', off', c', e1, hsl⟩ := HS2.out.cells i ds hd
      have HI : Hid (Calls Try.prog 7 #[.slice a' ds.length c'] (w2.drewN n0) fun e w' => ∃ r, e = .returned (.bool r) ∧ (∃ q, w' = (w2.drewN n0).drewN q) ∧ (r = true → IncTo ds ds.length)) := inc_any a' g' off' c' ds _ (hsl.drewN _) (by have := HF.out.2.2 i ds hd; omega)
      have HD : Hid (dss[i]? = some ds) := hd
      have hiI : (i : Int) < (dss.length : Int) := by omega
      clear hd hsl
      go_wp2_with fail
      refine HI.out.mono ?_
      rintro e w1 ⟨r, rfl, ⟨n1, hw1⟩, hr⟩
      subst hw1
      have HR : Hid (r = true → IncTo ds ds.length) := hr
      clear hr HI
      cases r
      · go_wp2_with fail
        go_ret
        exact ⟨rfl, ((Kept.refl [] w2).drewN (n0 + n1)).low⟩
      · go_wp2_with fail
        go_roundw
        case rel =>
          refine ⟨i + 1, n0 + n1, by omega, by go_num, fun j ds' hj hd' => ?_, by simp⟩
          by_cases e : j = i
          · subst e
            rw [HD.out] at hd'
            obtain rfl := Option.some.inj hd'
            exact HR.out trivial
          · exact HA.out j ds' (by omega) hd'
        case measure => simp [intOf]; omega
    · have HINC : Hid (∀ (j : Nat) (ds : List Nat), dss[j]? = some ds → Inc ds) := fun j ds hd => inc_of (HA.out j ds (by have := (List.getElem?_eq_some_iff.1 hd).1; omega) hd) (HDS.out j ds hd)
      clear HA
      have HL : Hid (Calls Try.prog 8 #[.slice a ks.length c, .int .i32 k] (w2.drewN n0) fun e w' => ∃ r : Int, e = .returned (.int .i64 r) ∧ w' = w2.drewN n0 ∧ ((r = -1 ∧ k ∉ ks) ∨ ∃ p : Nat, r = p ∧ ks[p]? = some k ∧ ∀ j, p < j → ks[j]? ≠ some k)) := lastIx_any a g off c ks k _ (HS.out.drewN _) (by omega)
      go_wp2_with fail
      refine HL.out.mono ?_
      rintro e w1 ⟨r, rfl, hw1, hr⟩
      subst hw1
      clear HL
      rcases hr with ⟨rfl, _⟩ | ⟨p, rfl, hp1, hp2⟩
      · go_wp2_with fail
        go_ret
        exact ⟨rfl, ((Kept.refl [] w2).drewN n0).low⟩
      have hpl : p < ks.length := (List.getElem?_eq_some_iff.1 hp1).1
      have hpl2 : p < dss.length := by have := HN.out; omega
      have HP : Hid (ks[p]? = some k ∧ ∀ j, p < j → ks[j]? ≠ some k) := ⟨hp1, hp2⟩
      clear hp1 hp2
      obtain rfl := HS2.out.at_ (by omega)
      obtain ⟨ds, hd⟩ : ∃ d, dss[p]? = some d := ⟨_, List.getElem?_eq_getElem hpl2⟩
      obtain ⟨a', g', off', c', e1, hsl⟩ := HS2.out.cells p ds hd
      have HIX : Hid (Calls Try.prog 9 #[.slice a' ds.length c', .int .u32 q] (w2.drewN n0) fun e w' => ∃ r : Int, e = .returned (.int .i64 r) ∧ w' = w2.drewN n0 ∧ ((r = -1 ∧ q ∉ ds) ∨ ∃ p : Nat, r = p ∧ ds[p]? = some q ∧ ∀ j, j < p → ds[j]? ≠ some q)) := index_any a' g' off' c' ds q _ (hsl.drewN _) (by have := HF.out.2.2 p ds hd; omega)
      have HD : Hid (dss[p]? = some ds) := hd
      have hpI : (p : Int) < (dss.length : Int) := by omega
      clear hd hsl
      go_wp2_with fail
      refine HIX.out.mono ?_
      rintro e w1 ⟨r, rfl, hw1, hr⟩
      subst hw1
      clear HIX
      rcases hr with ⟨rfl, _⟩ | ⟨x, rfl, hx1, _⟩
      · go_wp2_with fail
        go_ret
        exact ⟨rfl, ((Kept.refl [] w2).drewN n0).low⟩
      have HX : Hid (ds[x]? = some q) := hx1
      have HCL : Hid (Calls Try.prog 10 #[.slice (some ⟨g2, off2, none⟩) dss.length c2] (w2.drewN n0) fun e w' => ∃ a' g' c', e = .returned (.slice a' dss.length c') ∧ SS w' a' g' 0 dss ∧ Kept [] (w2.drewN n0) w') := clones_any _ g2 off2 c2 dss _ (HS2.out.kept0 ((Kept.refl [] w2).drewN n0)) hf2 HF.out.2.2
      clear hx1
      go_wp2_with fail
      refine HCL.out.mono ?_
      rintro e w1 ⟨a3, g3, c3, rfl, hs3, hk1⟩
      clear HCL
      obtain rfl := hs3.at_ (by omega)
      have hb1 : Below w2.heap.size w2 w1 := ⟨hk1.os, hk1.tape, hk1.output, hk1.size, fun j hj => hk1.block j hj (by simp)⟩
      have HBD : Hid (Calls Try.prog 11 #[.int .i64 sup, .slice a ks.length c, .slice (some ⟨g3, 0, none⟩) dss.length c3] w1 fun e w' => e = .returned (.pointer (some ⟨w1.heap.size, 0, none⟩)) ∧ (∃ U, Ch w' w1.heap.size U w1.heap.size sup (LF ks dss ks.length) (2 * ks.length)) ∧ Below w1.heap.size w1 w') := build_any sup a _ g off c g3 0 c3 ks dss w1 (HS.out.below hb1 (Nat.le_refl _)) hs3 HN.out hf1 (fun j ds hd => ⟨HF.out.2.2 j ds hd, HDS.out j ds hd⟩) HKS.out
      have HS3 : Hid (SS w1 (some ⟨g3, 0, none⟩) g3 0 dss) := hs3
      have HB1 : Hid (Below w2.heap.size w2 w1) := hb1
      clear hs3 hk1 hb1 e1
      go_wp2_with fail
      refine HBD.out.mono ?_
      rintro e w3 ⟨rfl, ⟨U, hch⟩, hb3⟩
      clear HBD
      have HCH : Hid (Ch w3 w1.heap.size U w1.heap.size sup (LF ks dss ks.length) (2 * ks.length)) := hch
      have HB3 : Hid (Below w1.heap.size w1 w3) := hb3
      clear hch hb3
      obtain ⟨a4, g4, off4, c4, e2, hsl⟩ := (HS3.out.below HB3.out (Nat.le_refl _)).cells p ds HD.out
      rw [Nat.zero_add] at e2
      have HSL : Hid (Sl w3 a4 g4 off4 (ds.map u32)) := hsl
      have HE2 : Hid (w3.cell? ⟨g3, p, none⟩ = some (.slice a4 ds.length c4)) := e2
      have hdl := HF.out.2.2 p ds HD.out
      obtain ⟨i0, hinf, hz0, hz1, hz2⟩ := info_parts info24
      clear hsl e2
      as_aux_lemma =>
        go_wp2_with fail
        go_loopw [16, 17] (fun v t wr => ∃ i : Nat, i ≤ ds.length ∧ t = .int .i64 i ∧ wr.ownsRow w3.heap.size 24 1 v (Wq ds q i).length ((Wq ds q i).map u32) ∧ Kept [] w3 wr) (fun _ t _ => ds.length - (intOf t).toNat)
        case atStart => exact ⟨0, Nat.zero_le _, rfl, World.ownsRow_nil _ _ _ _, Kept.refl _ _⟩
        case round =>
          obtain ⟨i, hi, rfl, hown, hkp⟩ := hrel
          have HKP : Hid (Kept [] w3 wr) := hkp
          have HOW : Hid (wr.ownsRow w3.heap.size 24 1 u16 (Wq ds q i).length ((Wq ds q i).map u32)) := hown
          have e2 : wr.cell? ⟨g3, p, none⟩ = some (.slice a4 ds.length c4) := cell_below hkp.low (Nat.le_refl _) HE2.out
          by_cases hlt : i < ds.length
          · obtain rfl := HSL.out.at_ (by simp; omega)
            obtain ⟨y, hy⟩ : ∃ d, ds[i]? = some d := ⟨_, List.getElem?_eq_getElem hlt⟩
            have e3 : wr.cell? ⟨g4, off4 + i, none⟩ = some (.int .u32 y) := (HSL.out.kept0 hkp).cells i (u32 y) (by simp [hy])
            have HY : Hid (ds[i]? = some y) := hy
            have hiI : (i : Int) < (ds.length : Int) := by omega
            by_cases hix : i = x
            · have hib : ((i : Int) != (x : Int)) = false := by rw [bne_eq_false_iff_eq]; omega
              clear hown hkp hy
              go_wp2_with fail
              go_roundw
              case rel => exact ⟨i + 1, by omega, by go_num, by rw [Wq_skip (by rw [hix]; exact HX.out)]; exact HOW.out, HKP.out⟩
              case measure => simp [intOf]; omega
            · have hib : ((i : Int) != (x : Int)) = true := by rw [bne_iff_ne]; omega
              have hsz := hkp.size
              have hwl := Wq_le ds q i
              clear hkp hy
              go_wp2_with (at_builtin; refine wpList_append_own _ rfl _ _ 28 rfl w3.heap.size 24 i0 (.int .u32 0) 1 4 Try.underlying28 hinf hz0 hz1 hz2 rfl (by decide) _ _ _ rfl (hown.alloc _) ⟨wr.heap.size, 0, none⟩ 1 1 [.int .u32 y] rfl rfl ?c1 ?c2 ?c3 ?c4 ?c5 ?_)
              case c1 =>
                intro j u hj
                match j, hj with
                | 0, hj => simp at hj; subst hj; simp [Addr.add]
              case c2 => intro u hu; simp at hu; subst hu; rfl
              case c3 => unfold maxLen; omega
              case c4 => omega
              case c5 => simp; omega
              · intro v' w4 hown' hgrow _
                have HR : Hid (w4.ownsRow w3.heap.size 24 1 v' (Wq ds q (i + 1)).length ((Wq ds q (i + 1)).map u32) ∧ Kept [] w3 w4) := by
                  rw [Hid, Wq_put HY.out (fun e => hix (by
                    have h1 := HY.out
                    rw [e] at h1
                    exact (HINC.out p ds HD.out).inj h1 HX.out))]
                  exact want_put HKP.out HOW.out hown' hgrow
                clear hown' hgrow hown
                go_wp2_with fail
                go_roundw
                case rel => exact ⟨i + 1, by omega, by go_num, HR.out.1, HR.out.2⟩
                case measure => simp [intOf]; omega
          · obtain rfl : i = ds.length := by omega
            clear hown hkp
            have hLk : LF ks dss ks.length k = ds := by
              rw [LF_last ks dss p k HP.out.1 HP.out.2 _ hpl (Nat.le_refl _), List.getD_eq_getElem?_getD, HD.out]; rfl
            have hpc := HCH.out.pc_le
            have HRM : Hid (Calls Try.prog 12 #[.pointer (some ⟨w1.heap.size, 0, none⟩), .int .i32 k, .int .u32 q] wr fun e w' => e = .returned (.tuple #[]) ∧ Ch w' w1.heap.size U w1.heap.size (wrap64 (sup - 1)) (upd (LF ks dss ks.length) k (Wq ds q ds.length)) (2 * ks.length + 2) ∧ Kc w1.heap.size U w1.heap.size wr w') := by
              have := zzRemove w1.heap.size w1.heap.size U sup (LF ks dss ks.length) (2 * ks.length) k q wr (HCH.out.kept0 HKP.out) HK.out (by rw [hLk]; exact HINC.out p ds HD.out) (by rw [hLk]; exact List.mem_of_getElem? HX.out) (Nat.le_trans HB3.out.size HKP.out.size) (by omega) (by rw [hLk]; omega)
              rw [hLk, ← Wq_all] at this
              exact this
            have HPC : Hid (w1.heap.size < w3.heap.size) := hpc.2
            clear hpc hLk
            go_wp2_with fail
            refine HRM.out.mono ?_
            rintro e w4 ⟨rfl, hch4, hkc⟩
            have s13 := hch4.sup
            obtain ⟨a5, g5, c5, hv5, hsl5⟩ := own_sl (own_kc HOW.out hkc HCH.out.us HPC.out)
            have hwl := Wq_le ds q ds.length
            have hinc := HINC.out p ds HD.out
            have hpos : ∀ y ∈ Wq ds q ds.length, 0 < y := fun y hy => by
              rw [Wq_all] at hy
              exact (hinc.2 y (List.mem_filter.1 hy).1).1
            have hb4 : Below w1.heap.size w1 w4 := (HB3.out.trans (HKP.out.below HB3.out.size (by simp))).trans (hkc.below (Nat.le_trans HB3.out.size HKP.out.size) (Nat.le_refl _))
            have hb5 : Below w2.heap.size w2 w4 := HB1.out.trans (below_mono hb4 HB1.out.size)
            have HSH : Hid (Calls Try.prog 14 #[.pointer (some ⟨w1.heap.size, 0, none⟩), .int .i32 k, .slice a5 (Wq ds q ds.length).length c5] w4 fun e w' => e = .returned (.bool true) ∧ Kept [] w4 w') := by
              have := shows_any w1.heap.size w1.heap.size U _ _ _ k a5 g5 0 c5 w4 hch4 HK.out (by rw [upd_same]; exact hsl5) (by rw [upd_same]; exact hpos) (by rw [upd_same]; omega)
              rw [upd_same] at this
              exact this
            have HOT : Hid (∀ w5, Kept [] w4 w5 → Calls Try.prog 15 #[.pointer (some ⟨w1.heap.size, 0, none⟩), .slice a ks.length c, .slice (some ⟨g3, 0, none⟩) dss.length c3, .int .i32 k] w5 fun e w' => e = .returned (.bool true) ∧ Below w2.heap.size w2 w') := fun w5 k5 => by
              refine (others_any w1.heap.size w1.heap.size U _ _ _ k a _ g off c g3 0 c3 ks dss w5 (hch4.kept0 k5) (HS.out.below (hb5.trans (k5.below hb5.size (by simp))) (Nat.le_refl _)) (HS3.out.below (hb4.trans (k5.below hb4.size (by simp))) (Nat.le_refl _)) HN.out hf1 (fun j ds' hd' => ⟨HF.out.2.2 j ds' hd', fun y hy => ((HINC.out j ds' hd').2 y hy).1⟩) HKS.out (fun j x' ds' hx' hd' hne hl' => LF_others ks dss HN.out k j x' ds' hx' hd' hne hl' _)).mono ?_
              rintro e w' ⟨rfl, k6⟩
              have k56 : Kept [] w4 w' := k5.trans k6
              exact ⟨rfl, hb5.trans (k56.below hb5.size (by simp))⟩
            have hsb : (wrap64 (sup - 1) == wrap64 (sup - 1)) = true := by simp
            subst hv5
            clear hb4 hb5 hpos hinc hsl5 hkc hch4 HRM HOW HKP hwl
            go_wp2_with fail
            refine (supports_any _ _ _ s13).mono ?_
            rintro e w5 ⟨rfl, hw5⟩
            subst hw5
            go_wp2_with fail
            refine HSH.out.mono ?_
            rintro e w6 ⟨rfl, hk6⟩
            clear HSH
            have HO := HOT.out _ hk6
            have HO2 : Hid (Calls Try.prog 15 #[.pointer (some ⟨w1.heap.size, 0, none⟩), .slice a ks.length c, .slice (some ⟨g3, 0, none⟩) dss.length c3, .int .i32 k] w6 fun e w' => e = .returned (.bool true) ∧ Below w2.heap.size w2 w') := HO
            clear HO HOT hk6
            go_wp2_with fail
            refine HO2.out.mono ?_
            rintro e w7 ⟨rfl, hb7⟩
            go_wp2_with fail
            go_ret
            exact ⟨rfl, hb7⟩
end Go.Proofs.Qxb6616938a.A
