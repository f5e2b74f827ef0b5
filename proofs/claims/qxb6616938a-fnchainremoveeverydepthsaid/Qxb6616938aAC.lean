import Derived.Test.Qxb6616938aAB
namespace Go.Proofs.Qxb6616938a.A
open Go.ChangeShapes Go.WideShapes Go.ChangeAt Go.RowKit
set_option linter.unusedVariables false

theorem Ent.congr {n : Nat} {f g D : Nat → Nat} (t : Ent n f D) (h : ∀ i, i < n → g i = f i) : Ent n g D :=
  ⟨fun i hi h0 => by rw [h i hi] at h0 ⊢; exact t.val i hi h0, fun k hk => by
    obtain ⟨i, a, b, c⟩ := t.has k hk
    exact ⟨i, a, by rw [h i a]; exact b, by rw [h i a]; exact c⟩, fun i j hi hj h1 h2 h3 => by
    rw [h i hi] at h1 h3; rw [h j hj] at h2 h3; exact t.uni i j hi hj h1 h2 h3⟩
theorem Ent.shrink {n : Nat} {f D : Nat → Nat} (t : Ent (n + 1) f D) (h0 : f n = 0) : Ent n f D :=
  ⟨fun i hi h => t.val i (by omega) h, fun k hk => by
    obtain ⟨i, a, b, c⟩ := t.has k hk
    have : i ≠ n := fun e => b (e ▸ h0)
    exact ⟨i, by omega, b, c⟩, fun i j hi hj => t.uni i j (by omega) (by omega)⟩
/-- the last entry takes the place of the one that goes -/
theorem Ent.swap {n : Nat} {f D : Nat → Nat} {k i : Nat} (t : Ent (n + 1) f D) (hi : i < n + 1) (hn : f n ≠ 0) (h0 : f i ≠ 0) (hk : f i / 4294967296 = k) : Ent n (put' (put' f i (f n)) n 0) (put' D k 0) := by
  have h1 := t.del hi h0 hk
  by_cases e : i = n
  · subst e
    exact (h1.shrink (put_same _ _ _)).congr fun q hq => by simp only [put']; repeat' split <;> omega
  · have h2 := h1.move (i := i) (j := n) hi (by omega) (put_same _ _ _) (by rw [put_ne _ _ (fun h => e h.symm)]; exact hn)
    refine (h2.shrink (put_same _ _ _)).congr fun q hq => ?_
    have e' : ¬ n = i := fun h => e h.symm
    simp only [put', if_neg e']
    by_cases e1 : q = i
    · simp [e1]
    · simp [e1]
theorem put_noop {D : Nat → Nat} {k : Nat} (h : D k = 0) : put' D k 0 = D := by
  funext q; simp only [put']; split
  · rename_i e; rw [e, h]
  · rfl

/-- one place of the small ones, and their number, turned -/
theorem small_set {xs : List Value} {f D : Nat → Nat} {t s n c : Nat} (hx : xs.length = 21) (h7 : xs[7]? = some (.slice none 0 0)) (hj : ∀ j, j < 6 → xs[j]? = some (.int .u64 (f j))) (hbd : ∀ j, j < 6 → f j < 18446744073709551616)
    (ht : t < 6) (hs : s < 18446744073709551616) (hn : n ≤ 6) (hE : Ent n (put' f t s) D) (hne : ∀ j, j < n → put' f t s j ≠ 0) (hc : n ≤ c) : Small ((xs.set t (.int .u64 s)).set 6 (.int .i64 n)) D c := by
  refine ⟨n, put' f t s, hn, by simp [hx], ?_, fun j hj' => ?_, hE, hne, fun j hj' => ?_, hc⟩
  · rw [List.getElem?_set_ne (by decide), List.getElem?_set_ne (by omega)]; exact h7
  · rw [List.getElem?_set_ne (by omega)]
    by_cases e : j = t
    · rw [e, put_same, List.getElem?_set_self (by rw [hx]; omega)]
    · rw [List.getElem?_set_ne (fun h => e h.symm), put_ne _ _ e]; exact hj j hj'
  · by_cases e : j = t
    · rw [e, put_same]; exact hs
    · rw [put_ne _ _ e]; exact hbd j hj'

set_option maxRecDepth 100000 in
set_option maxHeartbeats 1000000 in
theorem setSmall_any (pc B key v c : Nat) (xs : List Value) (D : Nat → Nat) (w : World) (hb : Rw w pc 57 xs) (hx : xs.length = 21) (hp : B ≤ pc) (hB : B ≤ w.heap.size) (hs : Small xs D c) (hk : key < 4294967296) (hv : v < 4294967296) (hc : c < 1048576) :
    Calls Try.prog 38 #[.pointer (some ⟨pc, 0, none⟩), .int .u32 key, .int .u64 ((key * 4294967296 + v : Nat) : Int)] w fun e w' => e = .returned (.tuple #[]) ∧ ∃ ys, NM w' B pc ys (put' D key v) (c + 1) ∧ (∀ i, 9 ≤ i → ys[i]? = xs[i]?) ∧ Kt B pc w w' := by
  have hs' := hs
  obtain ⟨n, f, hn, h6, h7, hj, hE, hne, hbd, hcn⟩ := hs
  have c6 : w.cell? ⟨pc, 6, none⟩ = some (.int .i64 n) := by rw [cells_of hb 6]; simpa using h6
  have a6 : w.frozen? ⟨pc, 6, none⟩ = false := free_of hb 6
  have HC : Hid (∀ j, j < 6 → w.cell? ⟨pc, j, none⟩ = some (.int .u64 (f j))) := fun j hj' => by rw [cells_of hb j]; simpa using hj j hj'
  have HA : Hid (∀ j, w.frozen? ⟨pc, j, none⟩ = false) := fun j => free_of hb j
  have HSM : Hid (Small xs D c) := hs'
  have HBK : Hid (Rw w pc 57 xs) := hb
  have H6 : Hid (xs[6]? = some (.int .i64 n)) := h6
  have H7 : Hid (xs[7]? = some (.slice none 0 0)) := h7
  have HJ : Hid (∀ j, j < 6 → xs[j]? = some (.int .u64 (f j))) := hj
  have HE : Hid (Ent n f D) := hE
  have HBD : Hid (∀ j, j < 6 → f j < 18446744073709551616) := hbd
  have HNE : Hid (∀ j, j < n → f j ≠ 0) := hne
  have hnI : (n : Int) ≤ 6 := by omega
  obtain ⟨sl, hsl⟩ : ∃ sl, sl = key * 4294967296 + v := ⟨_, rfl⟩
  have HSL : Hid (sl = key * 4294967296 + v) := hsl
  have hslb : sl < 18446744073709551616 := by omega
  have hslv : (sl : Int) % 4294967296 = (v : Int) := by omega
  rw [← hsl]
  have HX : Hid (xs.length = 21) := hx
  clear hs' hb h6 h7 hj hE hbd hne hsl hx
  go_enter Try.func38, Try.ntmps38
  go_wp2_with fail
  go_loopw [6] (fun t wr => ∃ j : Nat, j ≤ n ∧ t = .int .i64 j ∧ (∀ i, i < j → f i / 4294967296 ≠ key) ∧ wr = w) (fun t _ => n - (intOf t).toNat)
  case atStart => exact ⟨0, Nat.zero_le _, rfl, fun i hi => by omega, rfl⟩
  case round =>
    obtain ⟨j, hj, rfl, ha, hwr⟩ := hrel
    subst hwr
    have HAB : Hid (∀ i, i < j → f i / 4294967296 ≠ key) := ha
    clear ha
    by_cases hjn : j < n
    · have e1 := HC.out j (by omega)
      have hb1 := HBD.out j (by omega)
      have hn1 := HNE.out j hjn
      have hjI : (j : Int) < (n : Int) := by omega
      obtain ⟨s, hs⟩ : ∃ s, s = f j := ⟨_, rfl⟩
      have HSf : Hid (s = f j) := hs
      rw [← hs] at e1 hb1 hn1
      clear hs
      by_cases hq : s / 4294967296 = key
      · have hq' : ((s : Int) / 4294967296 != (key : Int)) = false := by rw [bne_eq_false_iff_eq]; omega
        have aj := HA.out j
        have hj6 : j ≠ 6 := by omega
        by_cases hv0 : v = 0
        · have hv0' : ((v : Int) == 0) = true := by rw [beq_iff_eq]; omega
          obtain ⟨m, rfl⟩ : ∃ m, n = m + 1 := ⟨n - 1, by omega⟩
          have hm1 : ((m + 1 : Nat) : Int) - 1 = (m : Int) := by omega
          have em := HC.out m (by omega)
          have am := HA.out m
          have hm6 : m ≠ 6 := by omega
          have hmI : (m : Int) < 6 := by omega
          have HEN : Hid (Ent m (put' (put' f j (f m)) m 0) (put' D key 0)) := HE.out.swap hjn (HNE.out m (by omega)) (by rw [← HSf.out]; exact hn1) (by rw [← HSf.out]; exact hq)
          have HFM := HBD.out m (by omega)
          have HFN : Hid (Small ((((xs.set 6 (.int .i64 m)).set j (.int .u64 (f m)))).set m (.int .u64 0)) (put' D key 0) (c + 1)) := by
            refine ⟨m, _, by omega, ?_, ?_, fun i hi => ?_, HEN.out, fun i hi => ?_, fun i hi => ?_, by omega⟩
            · rw [List.getElem?_set_ne (by omega), List.getElem?_set_ne (by omega)]; simp [HX.out]
            · rw [List.getElem?_set_ne (by omega), List.getElem?_set_ne (by omega), List.getElem?_set_ne (by omega)]; exact H7.out
            · by_cases e : i = m
              · rw [e, put_same, List.getElem?_set_self (by simp [HX.out]; omega)]; rfl
              · rw [List.getElem?_set_ne (fun h => e h.symm), put_ne _ _ e]
                by_cases e2 : i = j
                · rw [e2, put_same, List.getElem?_set_self (by simp [HX.out]; omega)]
                · rw [List.getElem?_set_ne (fun h => e2 h.symm), put_ne _ _ e2, List.getElem?_set_ne (by omega)]; exact HJ.out i hi
            · rw [put_ne _ _ (by omega)]
              by_cases e2 : i = j
              · rw [e2, put_same]; exact HNE.out m (by omega)
              · rw [put_ne _ _ e2]; exact HNE.out i (by omega)
            · have := HBD.out i hi
              unfold put'; split
              · omega
              · split <;> omega
          have HFIN : Hid (∀ q, ∃ ys, NM ((((wr.setCell ⟨pc, 6, none⟩ (.int .i64 m)).setCell ⟨pc, j, none⟩ (.int .u64 (f m))).setCell ⟨pc, m, none⟩ (.int .u64 0)).drewN q) B pc ys (put' D key v) (c + 1) ∧ (∀ i, 9 ≤ i → ys[i]? = xs[i]?) ∧ Kt B pc wr ((((wr.setCell ⟨pc, 6, none⟩ (.int .i64 m)).setCell ⟨pc, j, none⟩ (.int .u64 (f m))).setCell ⟨pc, m, none⟩ (.int .u64 0)).drewN q)) := fun q => by
            rw [hv0]
            refine ⟨_, ⟨((HBK.out.set 6 _).set j _).set m _, by simp [HX.out], hp, .inl HFN.out⟩, fun i hi => ?_, ((((Kt.refl _ _ _).setCell _ _).setCell _ _).setCell _ _).drewN _⟩
            rw [List.getElem?_set_ne (by omega), List.getElem?_set_ne (by omega), List.getElem?_set_ne (by omega)]
          obtain ⟨fm, hfm⟩ : ∃ fm, Hid (fm = f m) := ⟨_, rfl⟩
          rw [← hfm.out] at em HFIN
          clear HFM HFN HEN
          by_cases hjm : j = m
          · have hfs : fm = s := by rw [hfm.out, HSf.out, hjm]
            rw [hfs] at em HFIN
            subst hjm
            clear hfs hfm
            go_wp2_with fail
            go_region
            go_wp2_with fail
            go_end0
            exact ⟨rfl, HFIN.out 1⟩
          · have hjm2 : m ≠ j := fun h => hjm h.symm
            go_wp2_with fail
            go_region
            go_wp2_with fail
            go_end0
            exact ⟨rfl, HFIN.out 1⟩
        · have hv0' : ((v : Int) == 0) = false := by rw [beq_eq_false_iff_ne]; omega
          have HFN : Hid (Small ((xs.set j (.int .u64 sl)).set 6 (.int .i64 n)) (put' D key v) (c + 1)) := by
            have hE1 := HE.out.chg (k := key) hjn (by rw [← HSf.out]; exact hn1) (by rw [← HSf.out]; exact hq) hv0 hv
            rw [← HSL.out] at hE1
            refine small_set HX.out H7.out HJ.out HBD.out (by omega) hslb hn hE1 (fun i hi => ?_) (by omega)
            by_cases e : i = j
            · rw [e, put_same]; have := HSL.out; omega
            · rw [put_ne _ _ e]; exact HNE.out i hi
          go_wp2_with fail
          go_end0
          refine ⟨rfl, _, ⟨(HBK.out.set j _).set 6 _, by simp [HX.out], hp, .inl HFN.out⟩, fun i hi => ?_, ((Kt.refl _ _ _).setCell _ _).setCell _ _⟩
          rw [List.getElem?_set_ne (by omega), List.getElem?_set_ne (by omega)]
      · have hq' : ((s : Int) / 4294967296 != (key : Int)) = true := by rw [bne_iff_ne]; omega
        go_wp2_with fail
        go_roundw
        case rel =>
          refine ⟨j + 1, by omega, by go_num, fun i hi => ?_, by simp⟩
          by_cases e : i = j
          · subst e; rw [← HSf.out]; exact hq
          · exact HAB.out i (by omega)
        case measure => simp [intOf]; omega
    · obtain rfl : j = n := by omega
      have HD0 : Hid (D key = 0) := HE.out.absent (fun i hi => HAB.out i hi)
      by_cases hv0 : v = 0
      · have hv0' : ((v : Int) == 0) = true := by rw [beq_iff_eq]; omega
        go_wp2_with fail
        go_end0
        rw [hv0, put_noop HD0.out]
        obtain ⟨n', f', r1, r2, r3, r4, r5, r6, r7, r8⟩ := HSM.out
        exact ⟨rfl, xs, ⟨HBK.out, HX.out, hp, .inl ⟨n', f', r1, r2, r3, r4, r5, r6, r7, by omega⟩⟩, fun _ _ => rfl, Kt.refl _ _ _⟩
      · have hv0' : ((v : Int) == 0) = false := by rw [beq_eq_false_iff_ne]; omega
        by_cases h6n : j < 6
        · have hjI : (j : Int) < 6 := by omega
          have ej := HC.out j h6n
          have aj := HA.out j
          have hj6 : j ≠ 6 := by omega
          have HFN : Hid (Small ((xs.set j (.int .u64 sl)).set 6 (.int .i64 ((j + 1 : Nat) : Int))) (put' D key v) (c + 1)) := by
            have e1 : sl / 4294967296 = key := by have := HSL.out; omega
            have e2 : sl % 4294967296 = v := by have := HSL.out; omega
            have hE1 := HE.out.push (s := sl) (by rw [e1]; exact HD0.out) (by omega) (by omega)
            rw [e1, e2] at hE1
            refine small_set HX.out H7.out HJ.out HBD.out h6n hslb (by omega) hE1 (fun i hi => ?_) (by omega)
            by_cases e : i = j
            · rw [e, put_same]; have := HSL.out; omega
            · rw [put_ne _ _ e]; exact HNE.out i (by omega)
          go_wp2_with fail
          go_end0
          refine ⟨rfl, _, ⟨(HBK.out.set j _).set 6 _, by simp [HX.out], hp, .inl HFN.out⟩, fun i hi => ?_, ((Kt.refl _ _ _).setCell _ _).setCell _ _⟩
          rw [List.getElem?_set_ne (by omega), List.getElem?_set_ne (by omega)]
        · obtain rfl : j = 6 := by omega
          have HTB : Hid (Calls Try.prog 44 #[.pointer (some ⟨pc, 0, none⟩)] wr fun e w' => e = .returned (.tuple #[]) ∧ ∃ xs' g M f', TabAt w' pc xs' g M f' 6 ∧ Tbl M (home M) f' D ∧ xs'[6]? = some (.int .i64 0) ∧ (∀ j, j < 6 → xs'[j]? = some (.int .u64 0)) ∧ (∀ i, 9 ≤ i → xs'[i]? = xs[i]?) ∧ B ≤ g ∧ Kt B pc wr w') := toBig_any pc B 6 xs f D wr HBK.out HX.out hB (by omega) H6.out HJ.out HE.out HNE.out HBD.out
          go_wp2_with fail
          refine HTB.out.mono ?_
          rintro e w1 ⟨rfl, xs1, g, M, f1, q1, q2, q3, q4, q5, q6, q7⟩
          have hput := put_any pc g M 6 key v xs1 f1 D w1 q1 q2 HD0.out hk hv0 hv (by omega)
          have HPUT : Hid (Calls Try.prog 41 #[.pointer (some ⟨pc, 7, none⟩), .int .u32 key, .int .u32 v] w1 fun e w' => e = .returned (.tuple #[]) ∧ ∃ xs' g' M' f', TabAt w' pc xs' g' M' f' (6 + 1) ∧ Tbl M' (home M') f' (put' D key v) ∧ (∀ i, i ≠ 7 → i ≠ 8 → xs'[i]? = xs1[i]?) ∧ (g' = g ∨ w1.heap.size ≤ g') ∧ Kept [pc, g] w1 w') := hput
          have Q1 : Hid (TabAt w1 pc xs1 g M f1 6) := q1
          have Q3 : Hid (xs1[6]? = some (.int .i64 0)) := q3
          have Q4 : Hid (∀ j, j < 6 → xs1[j]? = some (.int .u64 0)) := q4
          have Q5 : Hid (∀ i, 9 ≤ i → xs1[i]? = xs[i]?) := q5
          have Q7 : Hid (Kt B pc wr w1) := q7
          clear hput q1 q2 q3 q4 q5 q7 HTB
          go_wp2_with fail
          refine HPUT.out.mono ?_
          rintro e w2 ⟨rfl, xs2, g2, M2, f2, p1, p2, p3, p4, p5⟩
          have HF : Hid (∃ ys, NM w2 B pc ys (put' D key v) (c + 1) ∧ (∀ i, 9 ≤ i → ys[i]? = xs[i]?) ∧ Kt B pc wr w2) := by
            have hsz := Q7.out.size
            refine ⟨xs2, ⟨p1.blk, p1.len, hp, .inr ⟨g2, M2, f2, 7, p1, p2, by rcases p4 with e | e <;> omega, by omega, by rw [p3 6 (by decide) (by decide)]; exact Q3.out, fun i hi => by rw [p3 i (by omega) (by omega)]; exact Q4.out i hi⟩⟩, fun i hi => by rw [p3 i (by omega) (by omega)]; exact Q5.out i hi, Q7.out.trans (Kt.of p5 Q1.out.row q6)⟩
          clear p1 p2 p3 p4 p5 HPUT
          go_wp2_with fail
          go_end0
          exact ⟨rfl, HF.out⟩
end Go.Proofs.Qxb6616938a.A
