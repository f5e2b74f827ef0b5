import Derived.Test.Qxb6616938aEJ
namespace Go.Proofs.Qxb6616938a.A
open Go.ChangeShapes Go.WideShapes Go.ChangeAt Go.RowKit Go.Sort
set_option linter.unusedVariables false

set_option maxRecDepth 100000 in
set_option maxHeartbeats 8000000 in
/-- FnChainRemoveEveryDepth -/
theorem law4 (sup : Int) (a a2 aq : Option Addr) (g off c g2 off2 c2 gq offq cq : Nat) (ks : List Int) (dss : List (List Nat)) (k : Int) (qs : List Nat) (w : World) (hs : Sl w a g off (ks.map (.int .i32))) (hs2 : SS w a2 g2 off2 dss) (hsq : Sl w aq gq offq (qs.map u32)) (hks : ∀ k ∈ ks, I32 k) (hk : I32 k)
    (hds : ∀ (j : Nat) (ds : List Nat), dss[j]? = some ds → ∀ x ∈ ds, x < 4294967296) (hsup : wrap64 sup = sup) :
    Calls Try.prog 4 #[.int .i64 sup, .slice a ks.length c, .slice a2 dss.length c2, .int .i32 k, .slice aq qs.length cq] w fun e w' => e = .returned (.bool true) ∧ Below w.heap.size w w' := by
  have HB : Hid (Calls Try.prog 16 #[.int .i64 sup, .slice a ks.length c, .slice a2 dss.length c2, .int .i32 k, .slice aq qs.length cq] w fun e w' => Ret e True ∧ w' = w) := bytes4 sup k a a2 _ c g2 off2 c2 dss aq _ cq w hs2
  have HZ : Hid (Calls Try.prog 6 #[.slice a ks.length c, .slice a2 dss.length c2] w fun e w' => Ret e (SizeFit ks.length dss) ∧ w' = w) := sizeOK_any a a2 _ c g2 off2 c2 dss w hs2
  have HS : Hid (Sl w a g off (ks.map (.int .i32))) := hs
  have HS2 : Hid (SS w a2 g2 off2 dss) := hs2
  have HSQ : Hid (Sl w aq gq offq (qs.map u32)) := hsq
  have HKS : Hid (∀ k ∈ ks, I32 k) := hks
  have HDS : Hid (∀ (j : Nat) (ds : List Nat), dss[j]? = some ds → ∀ x ∈ ds, x < 4294967296) := hds
  have HK : Hid (I32 k) := hk
  have HSUP : Hid (wrap64 sup = sup) := hsup
  clear hs hs2 hsq hks hds hk hsup
  go_enter Try.func4, Try.ntmps4
  go_wp2_with fail
  refine HB.out.mono ?_
  rintro e w1 ⟨⟨r, rfl, _⟩, hw1⟩
  subst hw1
  clear HB
  cases r
  · go_wp2_with fail
    go_ret
    exact ⟨rfl, Below.refl _ _⟩
  go_wp2_with fail
  refine HZ.out.mono ?_
  rintro e w2 ⟨⟨r, rfl, hfit⟩, hw2⟩
  subst hw2
  clear HZ
  cases r
  · go_wp2_with fail
    go_ret
    exact ⟨rfl, Below.refl _ _⟩
  have HF : Hid (SizeFit ks.length dss) := hfit rfl
  obtain ⟨hf1, hf2, _⟩ := hfit rfl
  clear hfit
  by_cases hq4 : ¬ qs.length ≤ 4096
  · have hq4I : 4096 < (qs.length : Int) := by omega
    go_wp2_with fail
    go_ret
    exact ⟨rfl, Below.refl _ _⟩
  have hq4 : qs.length ≤ 4096 := Decidable.not_not.1 hq4
  have hq4I : (qs.length : Int) ≤ 4096 := by omega
  by_cases hn : ¬ ks.length = dss.length
  · have hnb : ((ks.length : Int) != (dss.length : Int)) = true := by rw [bne_iff_ne]; omega
    go_wp2_with fail
    go_ret
    exact ⟨rfl, Below.refl _ _⟩
  have hn : ks.length = dss.length := Decidable.not_not.1 hn
  have HN : Hid (ks.length = dss.length) := hn
  have hnb : ((ks.length : Int) != (dss.length : Int)) = false := by rw [bne_eq_false_iff_eq]; omega
  clear hn
  go_wp2_with fail
  go_loopw [11] (fun t wr => ∃ i n0 : Nat, i ≤ dss.length ∧ t = .int .i64 i ∧ (∀ (j : Nat) (ds : List Nat), j < i → dss[j]? = some ds → IncTo ds ds.length) ∧ wr = w2.drewN n0) (fun t _ => dss.length - (intOf t).toNat)
  case atStart => exact ⟨0, 0, Nat.zero_le _, rfl, fun j ds hj => by omega, rfl⟩
  case round =>
    obtain ⟨i, n0, hi, rfl, ha, rfl⟩ := hrel
    have HA : Hid (∀ (j : Nat) (ds : List Nat), j < i → dss[j]? = some ds → IncTo ds ds.length) := ha
    clear ha
    by_cases hlt : i < dss.length
    · obtain rfl := HS2.out.at_ (by omega)
      obtain ⟨ds, hd⟩ : ∃ d, dss[i]? = some d := ⟨_, List.getElem?_eq_getElem hlt⟩
      obtain ⟨a', g', off', c', e1, hsl⟩ := HS2.out.cells i ds hd
      have HI : Hid (Calls Try.prog 7 #[.slice a' ds.length c'] (w2.drewN n0) fun e w' => ∃ r, e = .returned (.bool r) ∧ (∃ q, w' = (w2.drewN n0).drewN q) ∧ (r = true → IncTo ds ds.length)) := inc_any a' g' off' c' ds _ (hsl.drewN _) (by have := HF.out.2.2 i ds hd; omega)
      have HD : Hid (dss[i]? = some ds) := hd
      have hiI : (i : Int) < (dss.length : Int) := by omega
      clear hd hsl
      go_wp2_with fail
      refine HI.out.mono ?_
      rintro e w1 ⟨r, rfl, ⟨n1, hw1⟩, hr⟩
      subst hw1
      have HR : Hid (r = true → IncTo ds ds.length) := hr
      clear hr HI
      cases r
      · go_wp2_with fail
        go_ret
        exact ⟨rfl, ((Kept.refl [] w2).drewN (n0 + n1)).low⟩
      · go_wp2_with fail
        go_roundw
        case rel =>
          refine ⟨i + 1, n0 + n1, by omega, by go_num, fun j ds' hj hd' => ?_, by simp⟩
          by_cases e : j = i
          · subst e
            rw [HD.out] at hd'
            obtain rfl := Option.some.inj hd'
            exact HR.out trivial
          · exact HA.out j ds' (by omega) hd'
        case measure => simp [intOf]; omega
    · have HINC : Hid (∀ (j : Nat) (ds : List Nat), dss[j]? = some ds → Inc ds) := fun j ds hd => inc_of (HA.out j ds (by have := (List.getElem?_eq_some_iff.1 hd).1; omega) hd) (HDS.out j ds hd)
      clear HA
      have HL : Hid (Calls Try.prog 8 #[.slice a ks.length c, .int .i32 k] (w2.drewN n0) fun e w' => ∃ r : Int, e = .returned (.int .i64 r) ∧ w' = w2.drewN n0 ∧ ((r = -1 ∧ k ∉ ks) ∨ ∃ p : Nat, r = p ∧ ks[p]? = some k ∧ ∀ j, p < j → ks[j]? ≠ some k)) := lastIx_any a g off c ks k _ (HS.out.drewN _) (by omega)
      go_wp2_with fail
      refine HL.out.mono ?_
      rintro e w1 ⟨r, rfl, hw1, hr⟩
      subst hw1
      clear HL
      rcases hr with ⟨rfl, _⟩ | ⟨p, rfl, hp1, hp2⟩
      · go_wp2_with fail
        go_ret
        exact ⟨rfl, ((Kept.refl [] w2).drewN n0).low⟩
      have hpl : p < ks.length := (List.getElem?_eq_some_iff.1 hp1).1
      have hpl2 : p < dss.length := by have := HN.out; omega
      have HP : Hid (ks[p]? = some k ∧ ∀ j, p < j → ks[j]? ≠ some k) := ⟨hp1, hp2⟩
      clear hp1 hp2
      obtain rfl := HS2.out.at_ (by omega)
      obtain ⟨ds, hd⟩ : ∃ d, dss[p]? = some d := ⟨_, List.getElem?_eq_getElem hpl2⟩
      obtain ⟨a', g', off', c', e1, hsl⟩ := HS2.out.cells p ds hd
      have HSL2 : Hid (Sl w2 a' g' off' (ds.map u32)) := hsl
      have HE1 : Hid (w2.cell? ⟨g2, off2 + p, none⟩ = some (.slice a' ds.length c')) := e1
      have HD : Hid (dss[p]? = some ds) := hd
      have hpI : (p : Int) < (dss.length : Int) := by omega
      have hdl := HF.out.2.2 p ds hd
      clear hd hsl
      by_cases hqn : ¬ qs.length = ds.length
      · have hqb : ((qs.length : Int) != (ds.length : Int)) = true := by rw [bne_iff_ne]; omega
        go_wp2_with fail
        go_ret
        exact ⟨rfl, ((Kept.refl [] w2).drewN n0).low⟩
      have hqn : qs.length = ds.length := Decidable.not_not.1 hqn
      have HQN : Hid (qs.length = ds.length) := hqn
      have hqb : ((qs.length : Int) != (ds.length : Int)) = false := by rw [bne_eq_false_iff_eq]; omega
      have hmk := run_make_row' (P := Try.prog) 39 4 (.bool false) 1 Try.underlying39 info4 rfl .i64 .i64 qs.length (by omega) (by omega)
      clear hqn
      as_aux_lemma =>
        go_wp2_with fail
        go_loopw [14] (fun t wr => ∃ (t' : Nat) (bs : List Bool), t' ≤ qs.length ∧ t = .int .i64 t' ∧ Rw wr w2.heap.size 4 (bs.map .bool) ∧ Mk bs ds qs t' ∧ Good ds qs t' ∧ Kept [] w2 wr) (fun t _ => qs.length - (intOf t).toNat)
        case atStart => exact ⟨0, _, Nat.zero_le _, rfl, bools_made (w2.drewN n0) qs.length, by rw [HQN.out]; exact Mk.zero ds qs, Good.zero _ _, ((Kept.refl [] w2).drewN n0).alloc _⟩
        case round =>
          obtain ⟨t, bs, ht, rfl, hrw, hmk1, hgd, hkp⟩ := hrel
          have HRW : Hid (Rw wr w2.heap.size 4 (bs.map .bool) ∧ Mk bs ds qs t ∧ Good ds qs t ∧ Kept [] w2 wr) := ⟨hrw, hmk1, hgd, hkp⟩
          clear e1
          have e1 : wr.cell? ⟨g2, off2 + p, none⟩ = some (.slice a' ds.length c') := cell_below hkp.low (Nat.le_refl _) HE1.out
          clear hrw hmk1 hgd hkp
          by_cases hlt : t < qs.length
          · obtain rfl := HSQ.out.at_ (by simp; omega)
            obtain ⟨y, hy⟩ : ∃ d, qs[t]? = some d := ⟨_, List.getElem?_eq_getElem hlt⟩
            have e2 : wr.cell? ⟨gq, offq + t, none⟩ = some (.int .u32 y) := (HSQ.out.kept0 HRW.out.2.2.2).cells t (u32 y) (by simp [hy])
            have HY : Hid (qs[t]? = some y) := hy
            have htI : (t : Int) < (qs.length : Int) := by omega
            have hsw := (HSL2.out.kept0 HRW.out.2.2.2)
            have HIX : Hid (Calls Try.prog 9 #[.slice a' ds.length c', .int .u32 y] wr.drew fun e w' => ∃ r : Int, e = .returned (.int .i64 r) ∧ w' = wr.drew ∧ ((r = -1 ∧ y ∉ ds) ∨ ∃ p : Nat, r = p ∧ ds[p]? = some y ∧ ∀ j, j < p → ds[j]? ≠ some y)) := index_any a' g' off' c' ds y _ ⟨hsw.at_, hsw.cells⟩ (by omega)
            clear hy hsw
            go_wp2_with fail
            go_region_held3 (fun x => x.cell? ⟨g2, off2 + p, none⟩ = some (.slice a' ds.length c') ∧ x.cell? ⟨gq, offq + t, none⟩ = some (.int .u32 y)) (go_keep) ((go_at_call 9; refine HIX.out.mono ?_; rintro e w1 ⟨r, rfl, hw1, hr⟩; subst hw1))
            clear HIX
            rcases hr with ⟨rfl, _⟩ | ⟨x, rfl, hx1, _⟩
            · go_wp2_with fail
              go_ret
              exact ⟨rfl, HRW.out.2.2.2.drew.low⟩
            have hxl : x < ds.length := (List.getElem?_eq_some_iff.1 hx1).1
            have hxq : x < qs.length := by have := HQN.out; omega
            have hxI : (x : Int) < (qs.length : Int) := by omega
            have hb := HRW.out.2.1.2 x y hx1
            obtain ⟨b, hbe⟩ : ∃ b, b = decide (y ∈ qs.take t) := ⟨_, rfl⟩
            rw [← hbe] at hb
            have e3 := bools_at HRW.out.1 hb
            have f3 : wr.frozen? ⟨w2.heap.size, x, none⟩ = false := free_of HRW.out.1 x
            have HBE : Hid (b = decide (y ∈ qs.take t)) := hbe
            have HX : Hid (ds[x]? = some y) := hx1
            clear hb hbe hx1
            cases b with
            | true =>
              go_wp2_with fail
              go_ret
              exact ⟨rfl, HRW.out.2.2.2.drew.low⟩
            | false =>
              go_wp2_with fail
              go_roundw
              case rel =>
                obtain ⟨h1, h2, h3, h4⟩ := HRW.out
                have hny : y ∉ qs.take t := fun hm => by have := HBE.out; rw [decide_eq_true hm] at this; cases this
                exact ⟨t + 1, _, by omega, by go_num, bools_set (w := wr.drew) h1 x true, h2.succ (HINC.out p ds HD.out) HY.out HX.out, h3.succ HY.out (List.mem_of_getElem? HX.out) hny, (h4.drew).setNew (by simp) _⟩
              case measure => simp [intOf]; omega
          · obtain rfl : t = qs.length := by omega
            have HGD : Hid (Good ds qs qs.length) := HRW.out.2.2.1
            have HKP : Hid (Kept [] w2 wr) := HRW.out.2.2.2
            have HCL : Hid (Calls Try.prog 10 #[.slice (some ⟨g2, off2, none⟩) dss.length c2] wr fun e w' => ∃ a' g' c', e = .returned (.slice a' dss.length c') ∧ SS w' a' g' 0 dss ∧ Kept [] wr w') := clones_any _ g2 off2 c2 dss _ (HS2.out.kept0 HKP.out) hf2 HF.out.2.2
            clear HRW e1
            as_aux_lemma =>
              go_wp2_with fail
              refine HCL.out.mono ?_
              rintro e w1 ⟨a3, g3, c3, rfl, hs3, hk1⟩
              clear HCL
              obtain rfl := hs3.at_ (by omega)
              have hb1 : Below w2.heap.size w2 w1 := (HKP.out.trans hk1).low
              have HBD : Hid (Calls Try.prog 11 #[.int .i64 sup, .slice a ks.length c, .slice (some ⟨g3, 0, none⟩) dss.length c3] w1 fun e w' => e = .returned (.pointer (some ⟨w1.heap.size, 0, none⟩)) ∧ (∃ U, Ch w' w1.heap.size U w1.heap.size sup (LF ks dss ks.length) (2 * ks.length)) ∧ Below w1.heap.size w1 w') := build_any sup a _ g off c g3 0 c3 ks dss w1 (HS.out.below hb1 (Nat.le_refl _)) hs3 HN.out hf1 (fun j ds hd => ⟨HF.out.2.2 j ds hd, HDS.out j ds hd⟩) HKS.out
              have HS3 : Hid (SS w1 (some ⟨g3, 0, none⟩) g3 0 dss) := hs3
              have HB1 : Hid (Below w2.heap.size w2 w1) := hb1
              clear hs3 hk1 hb1 HKP
              go_wp2_with fail
              refine HBD.out.mono ?_
              rintro e w3 ⟨rfl, ⟨U, hch⟩, hb3⟩
              clear HBD
              obtain ⟨a4, g4, off4, c4, e2', hsl⟩ := HS3.out.cells p ds HD.out
              rw [Nat.zero_add] at e2'
              have e2 := cell_below hb3 (Nat.le_refl _) e2'
              have HSL : Hid (Sl w1 a4 g4 off4 (ds.map u32)) := hsl
              obtain ⟨i0, hinf, hz0, hz1, hz2⟩ := info_parts info24
              have hmk2 := run_make_row' (P := Try.prog) 39 4 (.bool false) 1 Try.underlying39 info4 rfl .i64 .i64 ds.length (by omega) (by omega)
              have HST : Hid (Ch (w3.alloc (.cells (madeCells #[.bool false] ds.length) 4)) w1.heap.size U w1.heap.size (wrap64 (sup - ((0 : Nat) : Int))) (upd (LF ks dss ks.length) k (Wt ds qs 0)) (2 * ks.length + 2 * 0)) := by
                have hLk : LF ks dss ks.length k = ds := by
                  rw [LF_last ks dss p k HP.out.1 HP.out.2 _ hpl (Nat.le_refl _), List.getD_eq_getElem?_getD, HD.out]; rfl
                have e1 : wrap64 (sup - ((0 : Nat) : Int)) = sup := by
                  rw [show sup - ((0 : Nat) : Int) = sup from by omega]; exact HSUP.out
                have e2 : upd (LF ks dss ks.length) k (Wt ds qs 0) = LF ks dss ks.length := by
                  funext z
                  unfold upd
                  split
                  · rename_i e; rw [e, hLk, Wt_zero]
                  · rfl
                rw [Hid, e1, e2]
                exact hch.kept0 ((Kept.refl _ _).alloc _)
              have HB3 : Hid (Below w1.heap.size w1 w3 ∧ U ≤ w3.heap.size ∧ w1.heap.size < w3.heap.size) := ⟨hb3, hch.us, hch.pc_le.2⟩
              clear hsl hch hb3 hmk e2'
              go_wp2_with fail
              clear e2
              go_loopw [20] (fun t wr => ∃ (t' : Nat) (bs : List Bool), t' ≤ qs.length ∧ t = .int .i64 t' ∧ Rw wr w3.heap.size 4 (bs.map .bool) ∧ Mk bs ds qs t' ∧ Ch wr w1.heap.size U w1.heap.size (wrap64 (sup - (t' : Int))) (upd (LF ks dss ks.length) k (Wt ds qs t')) (2 * ks.length + 2 * t') ∧ Below w1.heap.size w1 wr) (fun t _ => qs.length - (intOf t).toNat)
              case atStart => exact ⟨0, _, Nat.zero_le _, rfl, bools_made w3 ds.length, Mk.zero ds qs, HST.out, HB3.out.1.trans (((Kept.refl [] w3).alloc _).below HB3.out.1.size (by simp))⟩
              case round =>
                obtain ⟨t, bs, ht, rfl, hrw, hmk3, hch, hbl⟩ := hrel
                have HRW : Hid (Rw wr w3.heap.size 4 (bs.map .bool) ∧ Mk bs ds qs t ∧ Ch wr w1.heap.size U w1.heap.size (wrap64 (sup - (t : Int))) (upd (LF ks dss ks.length) k (Wt ds qs t)) (2 * ks.length + 2 * t) ∧ Below w1.heap.size w1 wr) := ⟨hrw, hmk3, hch, hbl⟩
                clear hrw hmk3 hch hbl HST
                by_cases hlt : t < qs.length
                · obtain rfl := HSQ.out.at_ (by simp; omega)
                  obtain ⟨y, hy⟩ : ∃ d, qs[t]? = some d := ⟨_, List.getElem?_eq_getElem hlt⟩
                  have hbw : Below w2.heap.size w2 wr := HB1.out.trans (below_mono HRW.out.2.2.2 HB1.out.size)
                  have e2 : wr.cell? ⟨gq, offq + t, none⟩ = some (.int .u32 y) := (HSQ.out.below hbw (Nat.le_refl _)).cells t (u32 y) (by simp [hy])
                  have HY : Hid (qs[t]? = some y) := hy
                  have htI : (t : Int) < (qs.length : Int) := by omega
                  have HRM : Hid (Calls Try.prog 12 #[.pointer (some ⟨w1.heap.size, 0, none⟩), .int .i32 k, .int .u32 y] wr fun e w' => e = .returned (.tuple #[]) ∧ Ch w' w1.heap.size U w1.heap.size (wrap64 (sup - ((t : Int) + 1))) (upd (LF ks dss ks.length) k (Wt ds qs (t + 1))) (2 * ks.length + 2 * (t + 1)) ∧ Kc w1.heap.size U w1.heap.size wr w') := remove_round HRW.out.2.2.1 HK.out (HINC.out p ds HD.out) HGD.out hlt hy HRW.out.2.2.2.size hf1 (by omega) hdl
                  clear hy hbw
                  as_aux_lemma =>
                    go_wp2_with fail
                    refine HRM.out.mono ?_
                    rintro e w4 ⟨rfl, hch4, hkc⟩
                    have hrw4 : Rw w4 w3.heap.size 4 (bs.map .bool) := hkc.rw HRW.out.1 (by have := HB3.out.2.2; omega) (.inr ⟨HB3.out.2.1, by decide⟩)
                    have hb4 : Below w1.heap.size w1 w4 := HRW.out.2.2.2.trans (hkc.below HRW.out.2.2.2.size (Nat.le_refl _))
                    have hbw : Below w2.heap.size w2 w4 := HB1.out.trans (below_mono hb4 HB1.out.size)
                    have e3 : w4.cell? ⟨gq, offq + t, none⟩ = some (.int .u32 y) := (HSQ.out.below hbw (Nat.le_refl _)).cells t (u32 y) (by simp [HY.out])
                    have hs4 := HSL.out.below hb4 (Nat.le_refl _)
                    have HIX : Hid (Calls Try.prog 9 #[.slice a4 ds.length c4, .int .u32 y] w4 fun e w' => ∃ p : Nat, e = .returned (.int .i64 p) ∧ w' = w4 ∧ ds[p]? = some y) := (index_any a4 g4 off4 c4 ds y _ hs4 (by omega)).mono (by
                      rintro e w' ⟨r, rfl, hw, ⟨rfl, hno⟩ | ⟨x, rfl, hx, _⟩⟩
                      · exact absurd (HGD.out t y hlt HY.out).1 hno
                      · exact ⟨x, rfl, hw, hx⟩)
                    have H4 : Hid (Ch w4 w1.heap.size U w1.heap.size (wrap64 (sup - ((t : Int) + 1))) (upd (LF ks dss ks.length) k (Wt ds qs (t + 1))) (2 * ks.length + 2 * (t + 1)) ∧ Rw w4 w3.heap.size 4 (bs.map .bool) ∧ Below w1.heap.size w1 w4) := ⟨hch4, hrw4, hb4⟩
                    clear hch4 hkc hrw4 hb4 hbw hs4 HRM e2
                    go_wp2_with fail
                    refine HIX.out.mono ?_
                    rintro e w5 ⟨x, rfl, hw5, hx⟩
                    subst hw5
                    clear HIX
                    have hxl : x < ds.length := (List.getElem?_eq_some_iff.1 hx).1
                    have hxI : (x : Int) < (ds.length : Int) := by omega
                    obtain ⟨hch4, hrw4, hb4⟩ := H4.out
                    have f3 : w5.frozen? ⟨w3.heap.size, x, none⟩ = false := free_of hrw4 x
                    obtain ⟨b0, hb0⟩ : ∃ b, bs[x]? = some b := ⟨_, HRW.out.2.1.2 x y hx⟩
                    have e4 := bools_at hrw4 hb0
                    obtain ⟨w6, hw6⟩ : ∃ w6, w6 = w5.setCell ⟨w3.heap.size, x, none⟩ (.bool true) := ⟨_, rfl⟩
                    have H6 : Hid (Ch w6 w1.heap.size U w1.heap.size (wrap64 (sup - ((t : Int) + 1))) (upd (LF ks dss ks.length) k (Wt ds qs (t + 1))) (2 * ks.length + 2 * (t + 1)) ∧ Rw w6 w3.heap.size 4 ((bs.set x true).map .bool) ∧ Mk (bs.set x true) ds qs (t + 1) ∧ Below w1.heap.size w1 w6) := by
                      rw [hw6]
                      exact ⟨hch4.above hrw4 HB3.out.2.1 _, bools_set hrw4 x true, HRW.out.2.1.succ (HINC.out p ds HD.out) HY.out hx, Kc.setAbove (U := 0) (pc := 0) _ hb4 (by have := HB3.out.2.2; omega)⟩
                    clear hch4 hrw4 hb4 hb0 H4 hx HRW
                    go_wp2_with fail
                    rw [← hw6]
                    clear hw6 f3 e4 e3
                    go_loopw [21, 22] (fun v z wi => ∃ j : Nat, j ≤ ds.length ∧ z = .int .i64 j ∧ wi.ownsRow w6.heap.size 24 1 v (Wg ds qs (t + 1) j).length ((Wg ds qs (t + 1) j).map u32) ∧ Kept [] w6 wi) (fun _ z _ => ds.length - (intOf z).toNat)
                    case atStart => exact ⟨0, Nat.zero_le _, rfl, World.ownsRow_nil _ _ _ _, Kept.refl _ _⟩
                    case round =>
                      obtain ⟨j, hj, rfl, hown, hkp⟩ := hrel
                      have HKI : Hid (Kept [] w6 wr) := hkp
                      have HOW : Hid (wr.ownsRow w6.heap.size 24 1 u21 (Wg ds qs (t + 1) j).length ((Wg ds qs (t + 1) j).map u32)) := hown
                      by_cases hlj : j < ds.length
                      · obtain ⟨z, hz⟩ : ∃ d, ds[j]? = some d := ⟨_, List.getElem?_eq_getElem hlj⟩
                        have hsw := HSL.out.below (H6.out.2.2.2.trans (hkp.below H6.out.2.2.2.size (by simp))) (Nat.le_refl _)
                        obtain rfl := HSL.out.at_ (by simp; omega)
                        have e5 : wr.cell? ⟨g4, off4 + j, none⟩ = some (.int .u32 z) := hsw.cells j (u32 z) (by simp [hz])
                        obtain ⟨b, hbe⟩ : ∃ b, b = decide (z ∈ qs.take (t + 1)) := ⟨_, rfl⟩
                        have hbb := H6.out.2.2.1.2 j z hz
                        rw [← hbe] at hbb
                        have e6 := bools_at (H6.out.2.1.kept hkp (by simp)) hbb
                        have HZ : Hid (ds[j]? = some z) := hz
                        have HBE : Hid (b = decide (z ∈ qs.take (t + 1))) := hbe
                        have hjI : (j : Int) < (ds.length : Int) := by omega
                        have hsz := hkp.size
                        have hwl := Wg_le ds qs (t + 1) j
                        clear hz hsw hbb hbe hkp
                        cases b with
                        | true =>
                          clear hown
                          go_wp2_with fail
                          go_roundw
                          case rel => exact ⟨j + 1, by omega, by go_num, by rw [Wg_skip HZ.out (of_decide_eq_true HBE.out.symm)]; exact HOW.out, HKI.out⟩
                          case measure => simp [intOf]; omega
                        | false =>
                          go_wp2_with (at_builtin; refine wpList_append_own _ rfl _ _ 28 rfl w6.heap.size 24 i0 (.int .u32 0) 1 4 Try.underlying28 hinf hz0 hz1 hz2 rfl (by decide) _ _ _ rfl (hown.alloc _) ⟨wr.heap.size, 0, none⟩ 1 1 [.int .u32 z] rfl rfl ?c1 ?c2 ?c3 ?c4 ?c5 ?_)
                          case c1 =>
                            intro j u hj
                            match j, hj with
                            | 0, hj => simp at hj; subst hj; simp [Addr.add]
                          case c2 => intro u hu; simp at hu; subst hu; rfl
                          case c3 => unfold maxLen; omega
                          case c4 => omega
                          case c5 => simp; omega
                          · intro v' w7 hown' hgrow _
                            have HR : Hid (w7.ownsRow w6.heap.size 24 1 v' (Wg ds qs (t + 1) (j + 1)).length ((Wg ds qs (t + 1) (j + 1)).map u32) ∧ Kept [] w6 w7) := by
                              rw [Hid, Wg_put HZ.out (of_decide_eq_false HBE.out.symm)]
                              exact want_put HKI.out HOW.out hown' hgrow
                            clear hown' hgrow hown
                            go_wp2_with fail
                            go_roundw
                            case rel => exact ⟨j + 1, by omega, by go_num, HR.out.1, HR.out.2⟩
                            case measure => simp [intOf]; omega
                      · obtain rfl : j = ds.length := by omega
                        clear hown hkp
                        obtain ⟨h61, h62, h63, h64⟩ := H6.out
                        have hchw := h61.kept0 HKI.out
                        have s13 := hchw.sup
                        obtain ⟨a6, g6, c6, hv6, hsl6⟩ := own_sl HOW.out
                        have hwl := Wg_le ds qs (t + 1) ds.length
                        have hinc := HINC.out p ds HD.out
                        have HSH : Hid (Calls Try.prog 14 #[.pointer (some ⟨w1.heap.size, 0, none⟩), .int .i32 k, .slice a6 (Wg ds qs (t + 1) ds.length).length c6] wr fun e w' => e = .returned (.bool true) ∧ Kept [] w6 w') := by
                          have := shows_any w1.heap.size w1.heap.size U _ _ _ k a6 g6 0 c6 wr hchw HK.out (by rw [upd_same, ← Wg_all]; exact hsl6) (by rw [upd_same]; exact fun y' hy' => ((hinc.wt (t + 1)).2 y' hy').1) (by rw [upd_same, ← Wg_all]; omega)
                          rw [upd_same, ← Wg_all] at this
                          exact this.mono (by
                            rintro e w' ⟨rfl, h1⟩
                            exact ⟨rfl, HKI.out.trans h1⟩)
                        have hsb : (wrap64 (sup - ((t : Int) + 1)) != wrap64 (sup - ((t : Int) + 1))) = false := by simp
                        subst hv6
                        clear h61 h62 h63 h64 hchw hsl6 hinc HOW HKI
                        go_wp2_with fail
                        refine (supports_any _ _ _ s13).mono ?_
                        rintro e w7 ⟨rfl, hw7⟩
                        subst hw7
                        go_wp2_with fail
                        refine HSH.out.mono ?_
                        rintro e w8 ⟨rfl, hk8⟩
                        clear HSH
                        have H8 : Hid (Kept [] w6 w8) := hk8
                        clear hk8
                        go_wp2_with fail
                        go_roundw
                        case rel =>
                          obtain ⟨h61, h62, h63, h64⟩ := H6.out
                          exact ⟨t + 1, _, by omega, by go_num, h62.kept H8.out (by simp), h63, by rw [show (((t + 1 : Nat)) : Int) = (t : Int) + 1 from by omega]; exact h61.kept0 H8.out, h64.trans (H8.out.below h64.size (by simp))⟩
                        case measure => simp [intOf]; omega
                · obtain rfl : t = qs.length := by omega
                  obtain ⟨h1, h2, h3, h4⟩ := HRW.out
                  have hwe : Wt ds qs qs.length = [] := Wt_end (HINC.out p ds HD.out) HGD.out HQN.out
                  rw [hwe] at h3
                  have HSH : Hid (Calls Try.prog 14 #[.pointer (some ⟨w1.heap.size, 0, none⟩), .int .i32 k, .slice none 0 0] wr fun e w' => e = .returned (.bool true) ∧ Kept [] wr w') := by
                    have := shows_any w1.heap.size w1.heap.size U _ _ _ k none 0 0 0 wr h3 HK.out (by rw [upd_same]; exact ⟨by simp, by simp⟩) (by rw [upd_same]; simp) (by rw [upd_same]; simp)
                    rw [upd_same] at this
                    exact this
                  have hb5 : Below w2.heap.size w2 wr := HB1.out.trans (below_mono h4 HB1.out.size)
                  have HOT : Hid (∀ w5, Kept [] wr w5 → Calls Try.prog 15 #[.pointer (some ⟨w1.heap.size, 0, none⟩), .slice a ks.length c, .slice (some ⟨g3, 0, none⟩) dss.length c3, .int .i32 k] w5 fun e w' => e = .returned (.bool true) ∧ Below w2.heap.size w2 w') := fun w5 k5 => by
                    refine (others_any w1.heap.size w1.heap.size U _ _ _ k a _ g off c g3 0 c3 ks dss w5 (h3.kept0 k5) (HS.out.below (hb5.trans (k5.below hb5.size (by simp))) (Nat.le_refl _)) (HS3.out.below (h4.trans (k5.below h4.size (by simp))) (Nat.le_refl _)) HN.out hf1 (fun j ds' hd' => ⟨HF.out.2.2 j ds' hd', fun y hy => ((HINC.out j ds' hd').2 y hy).1⟩) HKS.out (fun j x' ds' hx' hd' hne hl' => LF_others ks dss HN.out k j x' ds' hx' hd' hne hl' _)).mono ?_
                    rintro e w' ⟨rfl, k6⟩
                    have k56 : Kept [] wr w' := k5.trans k6
                    exact ⟨rfl, hb5.trans (k56.below hb5.size (by simp))⟩
                  clear h1 h2 h3 h4 hwe hb5 HRW
                  go_wp2_with fail
                  refine HSH.out.mono ?_
                  rintro e w6 ⟨rfl, hk6⟩
                  clear HSH
                  have HO := HOT.out _ hk6
                  have HO2 : Hid (Calls Try.prog 15 #[.pointer (some ⟨w1.heap.size, 0, none⟩), .slice a ks.length c, .slice (some ⟨g3, 0, none⟩) dss.length c3, .int .i32 k] w6 fun e w' => e = .returned (.bool true) ∧ Below w2.heap.size w2 w') := HO
                  clear HO HOT hk6
                  go_wp2_with fail
                  refine HO2.out.mono ?_
                  rintro e w7 ⟨rfl, hb7⟩
                  go_wp2_with fail
                  go_ret
                  exact ⟨rfl, hb7⟩
end Go.Proofs.Qxb6616938a.A
