import Derived.Test.Qxb6616938aAA
namespace Go.Proofs.Qxb6616938a.A
open Go.ChangeShapes Go.WideShapes Go.ChangeAt Go.RowKit
set_option linter.unusedVariables false

/-- a new key at the end -/
theorem Ent.push {n : Nat} {f D : Nat → Nat} {s : Nat} (t : Ent n f D) (hD : D (s / 4294967296) = 0) (h0 : s ≠ 0) (hv : s % 4294967296 ≠ 0) : Ent (n + 1) (put' f n s) (put' D (s / 4294967296) (s % 4294967296)) := by
  have hkey : ∀ q, q < n → f q ≠ 0 → f q / 4294967296 ≠ s / 4294967296 := fun q hq h1 e => by
    have := t.val q hq h1
    rw [e, hD] at this
    omega
  refine ⟨fun q hq h1 => ?_, fun key hk => ?_, fun a b ha hb h1 h2 h3 => ?_⟩
  · by_cases e : q = n
    · subst e; rw [put_same, put_same]; exact ⟨hv, rfl⟩
    · rw [put_ne _ _ e] at h1 ⊢
      rw [put_ne _ _ (hkey q (by omega) h1)]
      exact t.val q (by omega) h1
  · by_cases e : key = s / 4294967296
    · exact ⟨n, by omega, by rw [put_same]; exact h0, by rw [put_same]; exact e.symm⟩
    · rw [put_ne _ _ e] at hk
      obtain ⟨p, p1, p2, p3⟩ := t.has key hk
      have : p ≠ n := by omega
      exact ⟨p, by omega, by rw [put_ne _ _ this]; exact p2, by rw [put_ne _ _ this]; exact p3⟩
  · by_cases ea : a = n
    · by_cases eb : b = n
      · rw [ea, eb]
      · rw [ea, put_same, put_ne _ _ eb] at h3
        rw [put_ne _ _ eb] at h2
        exact absurd h3.symm (hkey b (by omega) h2)
    · by_cases eb : b = n
      · rw [eb, put_same, put_ne _ _ ea] at h3
        rw [put_ne _ _ ea] at h1
        exact absurd h3 (hkey a (by omega) h1)
      · rw [put_ne _ _ ea] at h1 h3
        rw [put_ne _ _ eb] at h2 h3
        exact t.uni a b (by omega) (by omega) h1 h2 h3

/-- what holds in a round of toSmall -/
structure Ts (w wr : World) (pc : Nat) (xs : List Value) (f : Nat → Nat) (j : Nat) (ys : List Value) (h : Nat → Nat) : Prop where
  blk : Rw wr pc 57 ys
  len : ys.length = 21
  n6 : ys[6]? = some (.int .i64 (cnt f j))
  ag : ∀ i, 7 ≤ i → ys[i]? = xs[i]?
  sm : ∀ i, i < 6 → ys[i]? = some (.int .u64 (h i))
  ent : Ent (cnt f j) h (part f j)
  nz : ∀ i, i < cnt f j → h i ≠ 0
  bnd : ∀ i, i < 6 → h i < 18446744073709551616
  kp : Kept [pc] w wr

theorem Ts.same {w wr : World} {pc : Nat} {xs : List Value} {f : Nat → Nat} {j : Nat} {ys : List Value} {h : Nat → Nat} (t : Ts w wr pc xs f j ys h) (h0 : f j = 0) : Ts w wr pc xs f (j + 1) ys h := by
  have e1 : cnt f (j + 1) = cnt f j := by simp [cnt, h0]
  have e2 : part f (j + 1) = part f j := by simp [part, h0]
  exact ⟨t.blk, t.len, by rw [e1]; exact t.n6, t.ag, t.sm, by rw [e1, e2]; exact t.ent, by rw [e1]; exact t.nz, t.bnd, t.kp⟩

theorem Ts.step {w wr : World} {pc M : Nat} {xs : List Value} {f D : Nat → Nat} {j : Nat} {ys : List Value} {h : Nat → Nat} (t : Ts w wr pc xs f j ys h) (he : Ent M f D) (hj : j < M) (h0 : f j ≠ 0) (hb : f j < 18446744073709551616) (hc : cnt f j < 6) (q : Nat) :
    Ts w (((wr.setCell ⟨pc, cnt f j, none⟩ (.int .u64 (f j))).setCell ⟨pc, 6, none⟩ (.int .i64 ((cnt f j : Nat) + 1 : Int))).drewN q) pc xs f (j + 1) ((ys.set (cnt f j) (.int .u64 (f j))).set 6 (.int .i64 ((cnt f j : Nat) + 1 : Int))) (put' h (cnt f j) (f j)) := by
  have e1 : cnt f (j + 1) = cnt f j + 1 := by simp [cnt, h0]
  have e2 : part f (j + 1) = put' (part f j) (f j / 4294967296) (f j % 4294967296) := by simp [part, h0]
  refine ⟨(t.blk.set _ _).set _ _, by simp [t.len], ?_, fun i hi => ?_, fun i hi => ?_, ?_, fun i hi => ?_, fun i hi => ?_, ((t.kp.setCell (by simp) _).setCell (by simp) _).drewN _⟩
  · rw [e1]; simp [t.len]
  · rw [List.getElem?_set_ne (by omega), List.getElem?_set_ne (by omega)]; exact t.ag i hi
  · rw [List.getElem?_set_ne (by omega)]
    by_cases e : i = cnt f j
    · rw [e, put_same, List.getElem?_set_self (by rw [t.len]; omega)]
    · rw [List.getElem?_set_ne (fun h => e h.symm), put_ne _ _ e]; exact t.sm i hi
  · rw [e1, e2]
    exact t.ent.push (he.part_new hj h0) h0 (he.val j hj h0).1
  · by_cases e : i = cnt f j
    · rw [e, put_same]; exact h0
    · rw [put_ne _ _ e]; exact t.nz i (by omega)
  · by_cases e : i = cnt f j
    · rw [e, put_same]; exact hb
    · rw [put_ne _ _ e]; exact t.bnd i hi

set_option maxRecDepth 100000 in
set_option maxHeartbeats 1000000 in
theorem toSmall_any (pc B g M n : Nat) (xs : List Value) (f D : Nat → Nat) (w : World) (ht : TabAt w pc xs g M f n) (hT : Tbl M (home M) f D) (h6 : xs[6]? = some (.int .i64 0)) (hs : ∀ j, j < 6 → xs[j]? = some (.int .u64 0)) (hn : n ≤ 6) :
    Calls Try.prog 40 #[.pointer (some ⟨pc, 0, none⟩)] w fun e w' => e = .returned (.tuple #[]) ∧ ∃ ys, Rw w' pc 57 ys ∧ ys.length = 21 ∧ Small ys D n ∧ (∀ i, 9 ≤ i → ys[i]? = xs[i]?) ∧ Kt B pc w w' := by
  have hl := ht.pow.le
  have c7 := ht.c7
  have hne := ht.ne
  have hne2 : g ≠ pc := fun e => hne e.symm
  have HT : Hid (TabAt w pc xs g M f n) := ht
  have HTb : Hid (Tbl M (home M) f D) := hT
  have HST : Hid (Ts w w pc xs f 0 xs (fun _ => 0)) := ⟨ht.blk, ht.len, h6, fun _ _ => rfl, hs, (Tbl.empty 0 (fun _ => 0)).toEnt, fun i hi => by simp [cnt] at hi, fun _ _ => by omega, Kept.refl _ _⟩
  clear ht hT h6 hs
  go_enter Try.func40, Try.ntmps40
  go_wp2_with fail
  go_loopw [10] (fun t wr => ∃ (j : Nat) (ys : List Value) (h : Nat → Nat), j ≤ M ∧ t = .int .i64 j ∧ Ts w wr pc xs f j ys h) (fun t _ => M - (intOf t).toNat)
  case atStart => exact ⟨0, xs, _, Nat.zero_le _, rfl, HST.out⟩
  case round =>
    obtain ⟨j, ys, h, hj, rfl, hts⟩ := hrel
    have HTS : Hid (Ts w wr pc xs f j ys h) := hts
    clear HST
    by_cases hjM : j < M
    · have hjI : (j : Int) < (M : Int) := by omega
      have e1 : wr.cell? ⟨g, j, none⟩ = some (.int .u64 (f j)) := hts.kp.cell (HT.out.slot hjM) (by simp; exact hne2)
      have hb1 := HT.out.bnd j hjM
      obtain ⟨s, hs⟩ : ∃ s, s = f j := ⟨_, rfl⟩
      have HSf : Hid (s = f j) := hs
      rw [← hs] at e1 hb1
      by_cases h0 : s = 0
      · have HNX : Hid (Ts w wr pc xs f (j + 1) ys h) := hts.same (by rw [← hs]; exact h0)
        subst h0
        clear hs hts
        go_wp2_with fail
        go_roundw
        case rel => exact ⟨j + 1, ys, h, by omega, by go_num, HNX.out⟩
        case measure => simp [intOf]; omega
      · have h0' : ((s : Int) != 0) = true := by rw [bne_iff_ne]; omega
        have hcl : cnt f j < 6 := by
          have h1 := cnt_mono f (show j + 1 ≤ M by omega)
          have h2 : cnt f (j + 1) = cnt f j + 1 := by simp [cnt, ← hs, h0]
          have h3 := HT.out.cnt
          omega
        have hstep := fun q => hts.step HTb.out.toEnt hjM (by rw [← hs]; exact h0) (by rw [← hs]; exact hb1) hcl q
        obtain ⟨m, hm⟩ : ∃ m, m = cnt f j := ⟨_, rfl⟩
        have b6 : wr.cell? ⟨pc, 6, none⟩ = some (.int .i64 m) := by rw [cells_of hts.blk 6]; simpa [hm] using hts.n6
        have a6 : wr.frozen? ⟨pc, 6, none⟩ = false := free_of hts.blk 6
        have bm : wr.cell? ⟨pc, m, none⟩ = some (.int .u64 (h m)) := by rw [cells_of hts.blk m]; simpa using hts.sm m (by omega)
        have am : wr.frozen? ⟨pc, m, none⟩ = false := free_of hts.blk m
        rw [← hm, ← hs] at hstep
        have HSTEP : Hid (∀ q, Ts w (((wr.setCell ⟨pc, m, none⟩ (.int .u64 s)).setCell ⟨pc, 6, none⟩ (.int .i64 ((m : Nat) + 1 : Int))).drewN q) pc xs f (j + 1) ((ys.set m (.int .u64 s)).set 6 (.int .i64 ((m : Nat) + 1 : Int))) (put' h m s)) := hstep
        have hm6 : m ≠ 6 := by omega
        have hmI : (m : Int) < 6 := by omega
        clear hs hts hstep hm hcl
        go_wp2_with fail
        go_region
        go_wp2_with fail
        go_roundw
        case rel => exact ⟨j + 1, _, _, by omega, by go_num, HSTEP.out 1⟩
        case measure => simp [intOf]; omega
    · obtain rfl : j = M := by omega
      have b7 : wr.cell? ⟨pc, 7, none⟩ = some (.slice (some ⟨g, 0, none⟩) j j) := by
        rw [cells_of hts.blk 7]; simpa [hts.ag 7 (by omega)] using HT.out.sl
      have b8 : wr.cell? ⟨pc, 8, none⟩ = some (.int .i64 n) := by
        rw [cells_of hts.blk 8]; simpa [hts.ag 8 (by omega)] using HT.out.nn
      have a7 : wr.frozen? ⟨pc, 7, none⟩ = false := free_of hts.blk 7
      have a8 : wr.frozen? ⟨pc, 8, none⟩ = false := free_of hts.blk 8
      clear hts
      go_wp2_with fail
      go_end0
      have t := HTS.out
      refine ⟨rfl, _, (t.blk.set 7 _).set 8 _, by simp [t.len], ⟨n, h, hn, ?_, ?_, fun i hi => ?_, ?_, ?_, t.bnd, Nat.le_refl _⟩, fun i hi => ?_, ((Kt.of0 t.kp).setCell _ _).setCell _ _⟩
      · rw [List.getElem?_set_ne (by decide), List.getElem?_set_ne (by decide), t.n6, HT.out.cnt]
      · rw [List.getElem?_set_ne (by decide)]; simp [t.len]
      · rw [List.getElem?_set_ne (by omega), List.getElem?_set_ne (by omega)]; exact t.sm i hi
      · have := t.ent
        rw [HT.out.cnt, HTb.out.toEnt.part_all] at this
        exact this
      · have := t.nz
        rw [HT.out.cnt] at this
        exact this
      · rw [List.getElem?_set_ne (by omega), List.getElem?_set_ne (by omega)]; exact t.ag i (by omega)
end Go.Proofs.Qxb6616938a.A
