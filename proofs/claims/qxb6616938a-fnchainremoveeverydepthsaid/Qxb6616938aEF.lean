import Derived.Test.Qxb6616938aEE
namespace Go.Proofs.Qxb6616938a.A
open Go.ChangeShapes Go.WideShapes Go.ChangeAt Go.RowKit Go.Sort
set_option linter.unusedVariables false

set_option maxRecDepth 100000 in
set_option maxHeartbeats 2000000 in
/-- zzChainOthersKept -/
theorem others_any (pc B U : Nat) (sup : Int) (L : Int → List Nat) (c : Nat) (k : Int) (a a2 : Option Addr) (g off cp g2 off2 cp2 : Nat) (ks : List Int) (dss : List (List Nat)) (w : World) (h : Ch w B U pc sup L c) (hs : Sl w a g off (ks.map (.int .i32))) (hs2 : SS w a2 g2 off2 dss) (hn : ks.length = dss.length) (hl : ks.length ≤ 4096)
    (hls : ∀ (j : Nat) (ds : List Nat), dss[j]? = some ds → ds.length ≤ 262144 ∧ ∀ x ∈ ds, 0 < x) (hks : ∀ k ∈ ks, I32 k) (hL : ∀ (i : Nat) (x : Int) (ds : List Nat), ks[i]? = some x → dss[i]? = some ds → x ≠ k → (∀ j, i < j → ks[j]? ≠ some x) → L x = ds) :
    Calls Try.prog 15 #[.pointer (some ⟨pc, 0, none⟩), .slice a ks.length cp, .slice a2 dss.length cp2, .int .i32 k] w fun e w' => e = .returned (.bool true) ∧ Kept [] w w' := by
  have HS : Hid (Sl w a g off (ks.map (.int .i32))) := hs
  have HS2 : Hid (SS w a2 g2 off2 dss) := hs2
  have HLS : Hid (∀ (j : Nat) (ds : List Nat), dss[j]? = some ds → ds.length ≤ 262144 ∧ ∀ x ∈ ds, 0 < x) := hls
  have HKS : Hid (∀ k ∈ ks, I32 k) := hks
  have HN : Hid (ks.length = dss.length) := hn
  have HC : Hid (Ch w B U pc sup L c) := h
  have HL : Hid (∀ (i : Nat) (x : Int) (ds : List Nat), ks[i]? = some x → dss[i]? = some ds → x ≠ k → (∀ j, i < j → ks[j]? ≠ some x) → L x = ds) := hL
  obtain ⟨nd, hnd⟩ : ∃ nd, nd = dss.length := ⟨_, rfl⟩
  rw [← hnd]
  have hnI : nd = ks.length := by omega
  subst hnI
  clear hs hs2 hls hks hn hnd h hL
  go_enter Try.func15, Try.ntmps15
  go_wp2_with fail
  go_loopw [9] (fun t wr => ∃ i : Nat, i ≤ ks.length ∧ t = .int .i64 i ∧ Kept [] w wr) (fun t _ => ks.length - (intOf t).toNat)
  case atStart => exact ⟨0, Nat.zero_le _, rfl, Kept.refl _ _⟩
  case round =>
    obtain ⟨i, hi, rfl, hkp⟩ := hrel
    have HKP : Hid (Kept [] w wr) := hkp
    clear hkp
    by_cases hlt : i < ks.length
    · obtain rfl := HS.out.at_ (by simp; omega)
      obtain rfl := HS2.out.at_ (by have := HN.out; omega)
      obtain ⟨x, hx⟩ : ∃ d, ks[i]? = some d := ⟨_, List.getElem?_eq_getElem hlt⟩
      have e1 : wr.cell? ⟨g, off + i, none⟩ = some (.int .i32 x) := (HS.out.kept0 HKP.out).cells i (.int .i32 x) (by simp [hx])
      have HX : Hid (ks[i]? = some x) := hx
      have hiI : (i : Int) < (ks.length : Int) := by omega
      clear hx
      by_cases hxk : x = k
      · have hxb : (x == k) = true := by rw [beq_iff_eq]; exact hxk
        go_wp2_with fail
        go_roundw
        case rel => exact ⟨i + 1, by omega, by go_num, HKP.out⟩
        case measure => simp [intOf]; omega
      · have hxb : (x == k) = false := by rw [beq_eq_false_iff_ne]; exact hxk
        go_wp2_with fail
        go_loopw [10, 11] (fun l t wj => ∃ j q : Nat, l = .bool false ∧ t = .int .i64 j ∧ i + 1 ≤ j ∧ j ≤ ks.length ∧ (∀ j', i < j' → j' < j → ks[j']? ≠ some x) ∧ wj = wr.drewN q) (fun _ t _ => ks.length - (intOf t).toNat)
        case atStart => exact ⟨i + 1, 0, rfl, by go_num, by omega, by omega, fun j' h1 h2 => by omega, rfl⟩
        case round =>
          obtain ⟨j, q, rfl, rfl, hj1, hj2, ha, rfl⟩ := hrel
          have HA : Hid (∀ j', i < j' → j' < j → ks[j']? ≠ some x) := ha
          clear ha
          by_cases hlj : j < ks.length
          · obtain ⟨y, hy⟩ : ∃ d, ks[j]? = some d := ⟨_, List.getElem?_eq_getElem hlj⟩
            have e2 : wr.cell? ⟨g, off + j, none⟩ = some (.int .i32 y) := (HS.out.kept0 HKP.out).cells j (.int .i32 y) (by simp [hy])
            have HY : Hid (ks[j]? = some y) := hy
            have hjI : (j : Int) < (ks.length : Int) := by omega
            clear hy
            by_cases hyx : y = x
            · have hyb : (y == x) = true := by rw [beq_iff_eq]; exact hyx
              go_wp2_with fail
              go_quiet (fail)
              go_wp2_with fail
              go_roundw
              case rel => exact ⟨i + 1, by omega, by go_num, HKP.out.drewN _⟩
              case measure => simp [intOf]; omega
            · have hyb : (y == x) = false := by rw [beq_eq_false_iff_ne]; exact hyx
              go_wp2_with fail
              go_quiet (fail)
              go_wp2_with fail
              go_roundw
              case rel =>
                refine ⟨j + 1, q + nq, rfl, by go_num, by omega, by omega, fun j' h1 h2 => ?_, by simp⟩
                by_cases e : j' = j
                · subst e; rw [HY.out]; simpa using hyx
                · exact HA.out j' h1 (by omega)
              case measure => simp [intOf]; omega
          · obtain ⟨ds, hd⟩ : ∃ d, dss[i]? = some d := ⟨_, List.getElem?_eq_getElem (by have := HN.out; omega)⟩
            obtain ⟨a', g', off', c', e0, hsl⟩ := (HS2.out.kept0 HKP.out).cells i ds hd
            have hLx : L x = ds := HL.out i x ds HX.out hd hxk (fun j' h1 h2 => by
              by_cases e : j' < j
              · exact HA.out j' h1 e h2
              · have := (List.getElem?_eq_some_iff.1 h2).1; omega)
            obtain ⟨hl1, hl2⟩ := HLS.out i ds hd
            have HSH : Hid (Calls Try.prog 14 #[.pointer (some ⟨pc, 0, none⟩), .int .i32 x, .slice a' ds.length c'] (wr.drewN (q + 1)) fun e w' => e = .returned (.bool true) ∧ Kept [] w w') := by
              have := shows_any pc B U sup L c x a' g' off' c' (wr.drewN (q + 1)) (HC.out.kept0 (HKP.out.drewN _)) (HKS.out x (List.mem_of_getElem? HX.out)) (by rw [hLx]; exact hsl.drewN _) (by rw [hLx]; exact hl2) (by rw [hLx]; omega)
              rw [hLx] at this
              exact this.mono (by
                rintro e w' ⟨rfl, h1⟩
                exact ⟨rfl, (HKP.out.drewN _).trans h1⟩)
            have HCW : Hid (w.cell? ⟨g, off + i, none⟩ = some (.int .i32 x) ∧ w.cell? ⟨g2, off2 + i, none⟩ = some (.slice a' ds.length c')) := by
              refine ⟨HS.out.cells i (.int .i32 x) (by simp [HX.out]), ?_⟩
              obtain ⟨b1, b2, b3, b4, f0, _⟩ := HS2.out.cells i ds hd
              have := cell_below HKP.out.low (Nat.le_refl _) f0
              rw [e0] at this
              rw [f0, this]
            clear hd hsl hl1 hl2 hLx HA
            go_wp2_with fail
            go_region_held3 (fun x' => x'.cell? ⟨g, off + i, none⟩ = some (.int .i32 x) ∧ x'.cell? ⟨g2, off2 + i, none⟩ = some (.slice a' ds.length c')) (go_keep) ((go_at_call 14; refine HSH.out.mono ?_; rintro e w2 ⟨rfl, hk2⟩; have d3 : w2.cell? ⟨g, off + i, none⟩ = some (.int .i32 x) := cell_below hk2.low (Nat.le_refl _) HCW.out.1; have d4 : w2.cell? ⟨g2, off2 + i, none⟩ = some (.slice a' ds.length c') := cell_below hk2.low (Nat.le_refl _) HCW.out.2; have HK2 : Hid (Kept [] w w2) := hk2; clear hk2))
            go_wp2_with fail
            go_roundw
            case rel => exact ⟨i + 1, by omega, by go_num, HK2.out⟩
            case measure => simp [intOf]; omega
    · go_wp2_with fail
      go_ret
      exact ⟨rfl, HKP.out⟩
end Go.Proofs.Qxb6616938a.A
