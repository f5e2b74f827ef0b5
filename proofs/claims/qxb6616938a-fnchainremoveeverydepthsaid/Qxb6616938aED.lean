import Derived.Test.Qxb6616938aEC
namespace Go.Proofs.Qxb6616938a.A
open Go.ChangeShapes Go.WideShapes Go.ChangeAt Go.RowKit Go.Sort
set_option linter.unusedVariables false

/-- what the chain holds behind i keeps -/
def LF (ks : List Int) (dss : List (List Nat)) : Nat → Int → List Nat
  | 0 => fun _ => []
  | i + 1 => upd (LF ks dss i) (ks.getD i 0) (dss.getD i [])

theorem LF_last (ks : List Int) (dss : List (List Nat)) (p : Nat) (k : Int) (hp : ks[p]? = some k) (hl : ∀ j, p < j → ks[j]? ≠ some k) : ∀ n, p < n → n ≤ ks.length → LF ks dss n k = dss.getD p []
  | 0, h, _ => by omega
  | n + 1, h, hn => by
    show upd (LF ks dss n) (ks.getD n 0) (dss.getD n []) k = _
    by_cases e : n = p
    · subst e
      rw [List.getD_eq_getElem?_getD, hp]
      exact upd_same _ _ _
    · have h1 := hl n (by omega)
      rw [upd_ne _ _ (fun e' => h1 (by rw [e', List.getD_eq_getElem?_getD, List.getElem?_eq_getElem (show n < ks.length by omega)]; rfl))]
      exact LF_last ks dss p k hp hl n (by omega) (by omega)

theorem ch_new {w : World} {pc B U : Nat} {sup : Int} (h : Rw w pc 57 (ch0 sup)) (hB : B ≤ pc) (hU : U ≤ w.heap.size) : Ch w B U pc sup (fun _ => []) 0 :=
  ⟨_, _, .map none, fun _ => 0, fun _ => 0, nm_new h hB, rfl, rfl, .inl ⟨rfl, fun _ _ => by simp⟩, ⟨fun k _ hl => by simp at hl, fun k _ hl => by simp at hl, fun k _ _ _ hl => by simp at hl⟩, fun k _ => rfl, hU⟩

theorem Ch.kept0 {w w' : World} {B U pc : Nat} {sup : Int} {L : Int → List Nat} {c : Nat} (h : Ch w B U pc sup L c) (k : Kept [] w w') : Ch w' B U pc sup L c := by
  obtain ⟨xs, D, mv, pd, gb, ho⟩ := h
  exact ⟨_, _, _, _, _, ho.kept0 k⟩
theorem Ch.us {w : World} {B U pc : Nat} {sup : Int} {L : Int → List Nat} {c : Nat} (h : Ch w B U pc sup L c) : U ≤ w.heap.size := by
  obtain ⟨xs, D, mv, pd, gb, ho⟩ := h
  exact ho.us

/-- one round of zzBuildChain's loop -/
theorem build_round {wr : World} {B U pc : Nat} {sup : Int} {ks : List Int} {dss : List (List Nat)} {i : Nat} {k : Int} {ds : List Nat} (hk : ks[i]? = some k) (hd : dss[i]? = some ds) (h : Ch wr B U pc sup (LF ks dss i) (2 * i)) (hI : I32 k) (hx : ∀ x ∈ ds, x < 4294967296) (hl : ds.length ≤ 262144) (hi : i ≤ 4096) (hB : B ≤ U) {w1 : World} {v : Value} (k1 : Kept [] wr w1) (hv : Cl w1 U v ds) :
    Calls Try.prog 19 #[.pointer (some ⟨pc, 0, none⟩), .int .i32 k, v] w1 fun e w' => e = .returned (.tuple #[]) ∧ (∃ U', Ch w' B U' pc sup (LF ks dss (i + 1)) (2 * (i + 1)) ∧ B ≤ U') ∧ Below B w1 w' := by
  have hu := (h.kept0 k1).us
  refine (zzKeep pc B U sup _ (2 * i) k v ds w1 (h.kept0 k1) hI hv hx (by omega) hB (by omega) (by omega)).mono ?_
  rintro e w' ⟨rfl, ⟨U', h1, h2⟩, h3⟩
  refine ⟨rfl, ⟨U', ?_, by omega⟩, h3⟩
  show Ch w' B U' pc sup (upd (LF ks dss i) (ks.getD i 0) (dss.getD i [])) (2 * (i + 1))
  rw [List.getD_eq_getElem?_getD, List.getD_eq_getElem?_getD, hk, hd]
  exact h1

set_option maxRecDepth 100000 in
set_option maxHeartbeats 1000000 in
/-- zzBuildChain -/
theorem build_any (sup : Int) (a a2 : Option Addr) (g off c g2 off2 c2 : Nat) (ks : List Int) (dss : List (List Nat)) (w : World) (hs : Sl w a g off (ks.map (.int .i32))) (hs2 : SS w a2 g2 off2 dss) (hn : ks.length = dss.length) (hl : ks.length ≤ 4096)
    (hls : ∀ (j : Nat) (ds : List Nat), dss[j]? = some ds → ds.length ≤ 262144 ∧ ∀ x ∈ ds, x < 4294967296) (hks : ∀ k ∈ ks, I32 k) :
    Calls Try.prog 11 #[.int .i64 sup, .slice a ks.length c, .slice a2 dss.length c2] w fun e w' => e = .returned (.pointer (some ⟨w.heap.size, 0, none⟩)) ∧ (∃ U, Ch w' w.heap.size U w.heap.size sup (LF ks dss ks.length) (2 * ks.length)) ∧ Below w.heap.size w w' := by
  have HS : Hid (Sl w a g off (ks.map (.int .i32))) := hs
  have HS2 : Hid (SS w a2 g2 off2 dss) := hs2
  have HLS : Hid (∀ (j : Nat) (ds : List Nat), dss[j]? = some ds → ds.length ≤ 262144 ∧ ∀ x ∈ ds, x < 4294967296) := hls
  have HKS : Hid (∀ k ∈ ks, I32 k) := hks
  have HN : Hid (ks.length = dss.length) := hn
  obtain ⟨nd, hnd⟩ : ∃ nd, nd = dss.length := ⟨_, rfl⟩
  rw [← hnd]
  have HND : Hid (nd = dss.length) := hnd
  have hnI : nd = ks.length := by omega
  subst hnI
  clear hs hs2 hls hks hn hnd
  go_enter Try.func11, Try.ntmps11
  go_wp2_with fail
  refine (newChain_any sup w).mono ?_
  rintro e w1 ⟨rfl, hrw, hkp⟩
  have HC0 : Hid (Ch w1 w.heap.size w1.heap.size w.heap.size sup (fun _ => []) 0 ∧ w.heap.size ≤ w1.heap.size ∧ Below w.heap.size w w1) := ⟨ch_new hrw (Nat.le_refl _) (Nat.le_refl _), hkp.size, hkp.low⟩
  clear hrw hkp
  go_wp2_with fail
  go_loopw [8] (fun t wr => ∃ (i U : Nat), i ≤ ks.length ∧ t = .int .i64 i ∧ Ch wr w.heap.size U w.heap.size sup (LF ks dss i) (2 * i) ∧ w.heap.size ≤ U ∧ Below w.heap.size w wr) (fun t _ => ks.length - (intOf t).toNat)
  case atStart => exact ⟨0, _, Nat.zero_le _, rfl, HC0.out.1, HC0.out.2.1, HC0.out.2.2⟩
  case round =>
    obtain ⟨i, U, hi, rfl, hch, hU, hbl⟩ := hrel
    have HCH : Hid (Ch wr w.heap.size U w.heap.size sup (LF ks dss i) (2 * i) ∧ w.heap.size ≤ U ∧ Below w.heap.size w wr) := ⟨hch, hU, hbl⟩
    clear hch hU hbl HC0
    by_cases hlt : i < ks.length
    · obtain rfl := HS.out.at_ (by simp; omega)
      obtain rfl := HS2.out.at_ (by have := HN.out; omega)
      obtain ⟨k, hk⟩ : ∃ d, ks[i]? = some d := ⟨_, List.getElem?_eq_getElem hlt⟩
      obtain ⟨ds, hd⟩ : ∃ d, dss[i]? = some d := ⟨_, List.getElem?_eq_getElem (by have := HN.out; omega)⟩
      have hkI := HKS.out k (List.mem_of_getElem? hk)
      obtain ⟨hl1, hl2⟩ := HLS.out i ds hd
      have e1 : wr.cell? ⟨g, off + i, none⟩ = some (.int .i32 k) := cell_below HCH.out.2.2 (Nat.le_refl _) (HS.out.cells i (.int .i32 k) (by simp [hk]))
      obtain ⟨a', g', off', c', e0, hsl⟩ := HS2.out.cells i ds hd
      have e2 := cell_below HCH.out.2.2 (Nat.le_refl _) e0
      have hsl' := hsl.below HCH.out.2.2 (Nat.le_refl _)
      have hiI : (i : Int) < (ks.length : Int) := by omega
      have HCL : Hid (Calls Try.prog 17 #[.slice a' ds.length c'] wr.drew fun e w' => ∃ a3 n3 c3, e = .returned (.slice a3 n3 c3) ∧ Kept [] wr w' ∧ Cl w' U (.slice a3 n3 c3) ds) := (clone_any a' g' off' c' ds wr.drew ⟨hsl'.at_, hsl'.cells⟩ (by omega) (fun h => by have := hsl'.nil h; simpa using this)).mono (by
          rintro e w' ⟨h1, ⟨rfl, h2⟩ | ⟨rfl, h2⟩⟩
          · exact ⟨_, _, _, rfl, ⟨h1.os, h1.tape, h1.output, h1.size, h1.block⟩, .inl ⟨rfl, h2⟩⟩
          · exact ⟨_, _, _, rfl, ⟨h1.os, h1.tape, h1.output, h1.size, h1.block⟩, .inr ⟨_, rfl, h2, HCH.out.1.us⟩⟩)
      have HKP : Hid (∀ w1 v, Kept [] wr w1 → Cl w1 U v ds → Calls Try.prog 19 #[.pointer (some ⟨w.heap.size, 0, none⟩), .int .i32 k, v] w1 fun e w' => e = .returned (.tuple #[]) ∧ (∃ U', Ch w' w.heap.size U' w.heap.size sup (LF ks dss (i + 1)) (2 * (i + 1)) ∧ w.heap.size ≤ U') ∧ Below w.heap.size w1 w') := fun w1 v k1 hv => build_round hk hd HCH.out.1 hkI hl2 hl1 (by omega) HCH.out.2.1 k1 hv
      have HCW : Hid (w.cell? ⟨g, off + i, none⟩ = some (.int .i32 k) ∧ w.cell? ⟨g2, off2 + i, none⟩ = some (.slice a' ds.length c')) := ⟨HS.out.cells i (.int .i32 k) (by simp [hk]), e0⟩
      clear e0 hsl hsl' hd hk hl1 hl2 hkI
      go_wp2_with fail
      go_region_held3 (fun x => x.cell? ⟨g, off + i, none⟩ = some (.int .i32 k) ∧ x.cell? ⟨g2, off2 + i, none⟩ = some (.slice a' ds.length c')) (go_keep) (first | (go_at_call 17; refine HCL.out.mono ?_; rintro e w1 ⟨a3, n3, c3, rfl, hk1, hv⟩; have hb1 : Below w.heap.size w w1 := HCH.out.2.2.trans (hk1.below HCH.out.2.2.size (by simp)); have d1 : w1.cell? ⟨g, off + i, none⟩ = some (.int .i32 k) := cell_below hb1 (Nat.le_refl _) HCW.out.1; have d2 : w1.cell? ⟨g2, off2 + i, none⟩ = some (.slice a' ds.length c') := cell_below hb1 (Nat.le_refl _) HCW.out.2; have HB1 : Hid (Below w.heap.size w w1) := hb1; have HKC := HKP.out _ _ hk1 hv; have HKD : Hid (Calls Try.prog 19 #[.pointer (some ⟨w.heap.size, 0, none⟩), .int .i32 k, .slice a3 n3 c3] w1 fun e w' => e = .returned (.tuple #[]) ∧ (∃ U', Ch w' w.heap.size U' w.heap.size sup (LF ks dss (i + 1)) (2 * (i + 1)) ∧ w.heap.size ≤ U') ∧ Below w.heap.size w1 w') := HKC; clear HKC hk1 hv hb1) | (go_at_call 19; refine HKD.out.mono ?_; rintro e w2 ⟨rfl, hch, hbl⟩; have hb2 : Below w.heap.size w w2 := HB1.out.trans hbl; have d3 : w2.cell? ⟨g, off + i, none⟩ = some (.int .i32 k) := cell_below hb2 (Nat.le_refl _) HCW.out.1; have d4 : w2.cell? ⟨g2, off2 + i, none⟩ = some (.slice a' ds.length c') := cell_below hb2 (Nat.le_refl _) HCW.out.2))
      have HFIN : Hid ((∃ U', Ch w2 w.heap.size U' w.heap.size sup (LF ks dss (i + 1)) (2 * (i + 1)) ∧ w.heap.size ≤ U') ∧ Below w.heap.size w w2) := ⟨hch, hb2⟩
      clear hch hb2 hbl HKD HB1 HKP HCL
      go_wp2_with fail
      go_roundw
      case rel =>
        obtain ⟨⟨U', h1, h2⟩, h3⟩ := HFIN.out
        exact ⟨i + 1, U', by omega, by go_num, h1, h2, h3⟩
      case measure => simp [intOf]; omega
    · obtain rfl : i = ks.length := by omega
      go_wp2_with fail
      go_ret
      exact ⟨rfl, ⟨U, HCH.out.1⟩, HCH.out.2.2⟩
end Go.Proofs.Qxb6616938a.A
