import Derived.Test.Qxb6616938aAC
namespace Go.Proofs.Qxb6616938a.A
open Go.ChangeShapes Go.WideShapes Go.ChangeAt Go.RowKit
set_option linter.unusedVariables false

theorem slot_eq (kz : Int) (v : Nat) (hv : v < 4294967296) : bits .or .u64 (kz % 4294967296 * 4294967296) (v : Int) = ((key32 kz * 4294967296 + v : Nat) : Int) := by
  rw [key32_eq]; exact or_slot _ _ (key32_lt kz) hv

set_option maxRecDepth 100000 in
set_option maxHeartbeats 1000000 in
theorem set_small (pc B : Nat) (kz : Int) (v c : Nat) (xs : List Value) (D : Nat → Nat) (w : World) (hb : Rw w pc 57 xs) (hx : xs.length = 21) (hp : B ≤ pc) (hB : B ≤ w.heap.size) (hs : Small xs D c) (hv : v < 4294967296) (hc : c < 1048576) :
    Calls Try.prog 31 #[.pointer (some ⟨pc, 0, none⟩), .int .i32 kz, .int .u32 v] w fun e w' => e = .returned (.tuple #[]) ∧ ∃ ys, NM w' B pc ys (put' D (key32 kz) v) (c + 1) ∧ (∀ i, 9 ≤ i → ys[i]? = xs[i]?) ∧ Kt B pc w w' := by
  have c7 : w.cell? ⟨pc, 7, none⟩ = some (.slice none 0 0) := by
    obtain ⟨_, _, _, _, h7, _⟩ := hs
    rw [cells_of hb 7]; simpa using h7
  have HS : Hid (Calls Try.prog 38 #[.pointer (some ⟨pc, 0, none⟩), .int .u32 (kz % 4294967296), .int .u64 (bits .or .u64 (kz % 4294967296 * 4294967296) (v : Int))] w fun e w' => e = .returned (.tuple #[]) ∧ ∃ ys, NM w' B pc ys (put' D (key32 kz) v) (c + 1) ∧ (∀ i, 9 ≤ i → ys[i]? = xs[i]?) ∧ Kt B pc w w') := by
    rw [slot_eq kz v hv, key32_eq kz]
    exact setSmall_any pc B (key32 kz) v c xs D w hb hx hp hB hs (key32_lt kz) hv hc
  have hnil := nil_yes
  clear hs hb
  go_enter Try.func31, Try.ntmps31
  go_wp2_with fail
  refine HS.out.mono ?_
  rintro e w1 ⟨rfl, h⟩
  have HF : Hid (∃ ys, NM w1 B pc ys (put' D (key32 kz) v) (c + 1) ∧ (∀ i, 9 ≤ i → ys[i]? = xs[i]?) ∧ Kt B pc w w1) := h
  clear h HS
  go_wp2_with fail
  refine bodyPost_ret (results_none rfl _ _ _) rfl ?_
  exact ⟨rfl, HF.out⟩

set_option maxRecDepth 100000 in
set_option maxHeartbeats 1000000 in
theorem set_big (pc B : Nat) (kz : Int) (v c : Nat) (xs : List Value) (D : Nat → Nat) (w : World) (hp : B ≤ pc) (hB : B ≤ w.heap.size) (g M n : Nat) (f : Nat → Nat) (ht : TabAt w pc xs g M f n) (hT : Tbl M (home M) f D) (hg : B ≤ g) (hnc : n ≤ c) (h6 : xs[6]? = some (.int .i64 0)) (hz : ∀ j, j < 6 → xs[j]? = some (.int .u64 0)) (hv : v < 4294967296) (hc : c < 1048576) :
    Calls Try.prog 31 #[.pointer (some ⟨pc, 0, none⟩), .int .i32 kz, .int .u32 v] w fun e w' => e = .returned (.tuple #[]) ∧ ∃ ys, NM w' B pc ys (put' D (key32 kz) v) (c + 1) ∧ (∀ i, 9 ≤ i → ys[i]? = xs[i]?) ∧ Kt B pc w w' := by
  have hl := ht.pow.le
  have c7 := ht.c7
  have hk := key32_eq kz
  have hkl := key32_lt kz
  have HT : Hid (TabAt w pc xs g M f n) := ht
  have HTb : Hid (Tbl M (home M) f D) := hT
  have H6 : Hid (xs[6]? = some (.int .i64 0)) := h6
  have HZ : Hid (∀ j, j < 6 → xs[j]? = some (.int .u64 0)) := hz
  have HH : Hid (Calls Try.prog 37 #[.pointer (some ⟨pc, 7, none⟩), .int .u32 (kz % 4294967296)] w.drew fun e w' => e = .returned (.int .i64 (home M (key32 kz))) ∧ w' = w.drew) := by
    rw [hk]; exact home_any pc M (key32 kz) g w.drew ht.pow c7 hkl
  have HV : Hid (Calls Try.prog 36 #[.pointer (some ⟨pc, 7, none⟩), .int .u32 (kz % 4294967296), .int .i64 (home M (key32 kz))] w.drew fun e w' => ∃ (i : Nat) (b : Bool), e = .returned (.tuple #[.int .i64 i, .bool b]) ∧ w' = w.drew ∧ Sk M f (home M (key32 kz)) (key32 kz) i ∧ ((b = true ∧ f i ≠ 0 ∧ f i / 4294967296 = key32 kz) ∨ (b = false ∧ f i = 0))) := by
    rw [hk]; exact seek_home pc g M (key32 kz) f w.drew ht.rd.drew hkl
  have hnil := nil_no
  clear ht hT hk h6 hz
  go_enter Try.func31, Try.ntmps31
  go_wp2_with fail
  go_region_held3 (fun x => True) (trivial) (first | (go_at_call 37; refine HH.out.mono ?_; rintro e wq ⟨rfl, hwq⟩; subst hwq) | (go_at_call 36; refine HV.out.mono ?_; rintro e wq ⟨i, b, rfl, hwq, hsk, hor⟩; subst hwq))
  have HOR : Hid ((b = true ∧ f i ≠ 0 ∧ f i / 4294967296 = key32 kz) ∨ (b = false ∧ f i = 0)) := hor
  have HSK : Hid (Sk M f (home M (key32 kz)) (key32 kz) i) := hsk
  have hi := hsk.1
  clear hor hsk
  cases b with
  | false =>
    have h0 : f i = 0 := by rcases HOR.out with h | h; exact absurd h.1 (by simp); exact h.2
    have HD : Hid (D (key32 kz) = 0) := HSK.out.none HTb.out (home_lt (by omega) _) h0
    clear h0 HOR HSK
    by_cases hv0 : v = 0
    · have hv0' : ((v : Int) != 0) = false := by rw [bne_eq_false_iff_eq]; omega
      go_wp2_with fail
      go_end0
      rw [hv0, put_noop HD.out]
      have t := HT.out
      exact ⟨rfl, xs, ⟨t.blk, t.len, hp, .inr ⟨g, M, f, n, ⟨t.blk, t.len, t.sl, t.nn, t.row, t.pow, t.bnd, t.cnt, t.full⟩, HTb.out, hg, by omega, H6.out, HZ.out⟩⟩, fun _ _ => rfl, (Kt.refl _ _ _).drew⟩
    · have hv0' : ((v : Int) != 0) = true := by rw [bne_iff_ne]; omega
      have t := HT.out
      have hput := put_any pc g M n (key32 kz) v xs f D w.drew ⟨t.blk, t.len, t.sl, t.nn, t.row, t.pow, t.bnd, t.cnt, t.full⟩ HTb.out HD.out hkl hv0 hv (by omega)
      rw [← key32_eq] at hput
      have HPUT : Hid (Calls Try.prog 41 #[.pointer (some ⟨pc, 7, none⟩), .int .u32 (kz % 4294967296), .int .u32 v] w.drew fun e w' => e = .returned (.tuple #[]) ∧ ∃ xs' g' M' f', TabAt w' pc xs' g' M' f' (n + 1) ∧ Tbl M' (home M') f' (put' D (key32 kz) v) ∧ (∀ i, i ≠ 7 → i ≠ 8 → xs'[i]? = xs[i]?) ∧ (g' = g ∨ w.drew.heap.size ≤ g') ∧ Kept [pc, g] w.drew w') := hput
      clear hput t
      go_wp2_with fail
      refine HPUT.out.mono ?_
      rintro e w2 ⟨rfl, xs2, g2, M2, f2, p1, p2, p3, p4, p5⟩
      have HF : Hid (∃ ys, NM w2 B pc ys (put' D (key32 kz) v) (c + 1) ∧ (∀ i, 9 ≤ i → ys[i]? = xs[i]?) ∧ Kt B pc w w2) := by
        have p4' : g2 = g ∨ w.heap.size ≤ g2 := p4
        have k5 : Kt B pc w.drew w2 := Kt.of p5 (ys := tab (us f) M) HT.out.row hg
        exact ⟨xs2, ⟨p1.blk, p1.len, hp, .inr ⟨g2, M2, f2, n + 1, p1, p2, by rcases p4' with e | e <;> omega, by omega, by rw [p3 6 (by decide) (by decide)]; exact H6.out, fun i hi => by rw [p3 i (by omega) (by omega)]; exact HZ.out i hi⟩⟩, fun i hi => by rw [p3 i (by omega) (by omega)], (Kt.refl _ _ _).drew.trans k5⟩
      clear p1 p2 p3 p4 p5 HPUT
      go_wp2_with fail
      go_end0
      exact ⟨rfl, HF.out⟩
  | true =>
    have h0 : f i ≠ 0 ∧ f i / 4294967296 = key32 kz := by rcases HOR.out with h | h; exact h.2; exact absurd h.1 (by simp)
    have e1 := HT.out.slot hi
    have f1 : w.frozen? ⟨g, i, none⟩ = false := free_of HT.out.row i
    have hiI : (i : Int) < (M : Int) := by omega
    have H0 : Hid (f i ≠ 0 ∧ f i / 4294967296 = key32 kz) := h0
    clear h0 HOR HSK
    by_cases hv0 : v = 0
    · have hv0' : ((v : Int) == 0) = true := by rw [beq_iff_eq]; omega
      have t := HT.out
      have htk := takeOut_any pc g M n (key32 kz) i xs f D w.drew ⟨t.blk, t.len, t.sl, t.nn, t.row, t.pow, t.bnd, t.cnt, t.full⟩ HTb.out hi H0.out.1 H0.out.2
      have HTK : Hid (Calls Try.prog 39 #[.pointer (some ⟨pc, 7, none⟩), .int .i64 i] w.drew fun e w' => e = .returned (.tuple #[]) ∧ ∃ xs' g' M' f', TabAt w' pc xs' g' M' f' (n - 1) ∧ Tbl M' (home M') f' (put' D (key32 kz) 0) ∧ (∀ i, i ≠ 7 → i ≠ 8 → xs'[i]? = xs[i]?) ∧ (g' = g ∨ w.drew.heap.size ≤ g') ∧ Kept [pc, g] w.drew w') := htk
      clear htk t
      go_wp2_with fail
      refine HTK.out.mono ?_
      rintro e w2 ⟨rfl, xs2, g2, M2, f2, p1, p2, p3, p4, p5⟩
      have c8 := p1.c8
      have P1 : Hid (TabAt w2 pc xs2 g2 M2 f2 (n - 1)) := p1
      have P2 : Hid (Tbl M2 (home M2) f2 (put' D (key32 kz) 0)) := p2
      have P3 : Hid (∀ i, i ≠ 7 → i ≠ 8 → xs2[i]? = xs[i]?) := p3
      have k5 : Kt B pc w.drew w2 := Kt.of p5 (ys := tab (us f) M) HT.out.row hg
      have K5 : Hid (Kt B pc w w2) := (Kt.refl _ _ _).drew.trans k5
      have hg2 : B ≤ g2 := by
        have p4' : g2 = g ∨ w.heap.size ≤ g2 := p4
        rcases p4' with e | e <;> omega
      clear p1 p2 p3 p4 p5 k5 HTK
      obtain ⟨r, hr⟩ : ∃ r, r = n - 1 := ⟨_, rfl⟩
      rw [← hr] at P1 c8
      have HR : Hid (r = n - 1) := hr
      clear hr
      by_cases hr3 : (r : Int) ≤ 3
      · have HTS : Hid (Calls Try.prog 40 #[.pointer (some ⟨pc, 0, none⟩)] w2 fun e w' => e = .returned (.tuple #[]) ∧ ∃ ys, Rw w' pc 57 ys ∧ ys.length = 21 ∧ Small ys (put' D (key32 kz) 0) r ∧ (∀ i, 9 ≤ i → ys[i]? = xs2[i]?) ∧ Kt B pc w2 w') := toSmall_any pc B g2 M2 r xs2 f2 (put' D (key32 kz) 0) w2 P1.out P2.out (by rw [P3.out 6 (by decide) (by decide)]; exact H6.out) (fun j hj => by rw [P3.out j (by omega) (by omega)]; exact HZ.out j hj) (by omega)
        go_wp2_with fail
        refine HTS.out.mono ?_
        rintro e w3 ⟨rfl, ys, y1, y2, y3, y4, y5⟩
        have HF : Hid (∃ ys, NM w3 B pc ys (put' D (key32 kz) v) (c + 1) ∧ (∀ i, 9 ≤ i → ys[i]? = xs[i]?) ∧ Kt B pc w w3) := by
          rw [hv0]
          obtain ⟨n', f', r1, r2, r3, r4, r5, r6, r7, r8⟩ := y3
          exact ⟨ys, ⟨y1, y2, hp, .inl ⟨n', f', r1, r2, r3, r4, r5, r6, r7, by have := HR.out; omega⟩⟩, fun i hi => by rw [y4 i hi, P3.out i (by omega) (by omega)], K5.out.trans y5⟩
        clear y1 y2 y3 y4 y5 HTS
        go_wp2_with fail
        go_end0
        exact ⟨rfl, HF.out⟩
      · go_wp2_with fail
        go_end0
        rw [hv0]
        exact ⟨rfl, xs2, ⟨P1.out.blk, P1.out.len, hp, .inr ⟨g2, M2, f2, r, P1.out, P2.out, hg2, by have := HR.out; omega, by rw [P3.out 6 (by decide) (by decide)]; exact H6.out, fun j hj => by rw [P3.out j (by omega) (by omega)]; exact HZ.out j hj⟩⟩, fun i hi => by rw [P3.out i (by omega) (by omega)], K5.out⟩
    · have hv0' : ((v : Int) == 0) = false := by rw [beq_eq_false_iff_ne]; omega
      have HF : Hid (∃ ys, NM (w.setCell ⟨g, i, none⟩ (.int .u64 (bits .or .u64 (kz % 4294967296 * 4294967296) (v : Int)))).drew B pc ys (put' D (key32 kz) v) (c + 1) ∧ (∀ i, 9 ≤ i → ys[i]? = xs[i]?) ∧ Kt B pc w (w.setCell ⟨g, i, none⟩ (.int .u64 (bits .or .u64 (kz % 4294967296 * 4294967296) (v : Int)))).drew) := by
        rw [slot_eq kz v hv]
        have t := HT.out
        have hne := t.ne
        have hT1 := HTb.out.chg (k := key32 kz) hi H0.out.1 H0.out.2 hv0 hv
        have hr1 : Rw (w.setCell ⟨g, i, none⟩ (.int .u64 ((key32 kz * 4294967296 + v : Nat) : Int))).drew g 44 (tab (us (put' f i (key32 kz * 4294967296 + v))) M) := by
          rw [← us_put]
          exact t.row.set i _
        have hb1 : Rw (w.setCell ⟨g, i, none⟩ (.int .u64 ((key32 kz * 4294967296 + v : Nat) : Int))).drew pc 57 xs := t.blk.other hne i _
        have hc1 := cnt_put (f := f) (v := key32 kz * 4294967296 + v) hi
        rw [if_neg H0.out.1, if_neg (by omega)] at hc1
        refine ⟨xs, ⟨hb1, t.len, hp, .inr ⟨g, M, _, n, ⟨hb1, t.len, t.sl, t.nn, hr1, t.pow, fun q hq => ?_, by have := t.cnt; omega, t.full⟩, hT1, hg, by omega, H6.out, HZ.out⟩⟩, fun _ _ => rfl, ?_⟩
        · by_cases e : q = i
          · rw [e, put_same]; omega
          · rw [put_ne _ _ e]; exact t.bnd q hq
        · exact (Kt.of (Kept.setCell (Kept.refl [pc, g] w) (by simp) _) t.row hg).drew
      go_wp2_with fail
      go_end0
      exact ⟨rfl, HF.out⟩

theorem set_any (pc B : Nat) (kz : Int) (v c : Nat) (xs : List Value) (D : Nat → Nat) (w : World) (h : NM w B pc xs D c) (hB : B ≤ w.heap.size) (hv : v < 4294967296) (hc : c < 1048576) :
    Calls Try.prog 31 #[.pointer (some ⟨pc, 0, none⟩), .int .i32 kz, .int .u32 v] w fun e w' => e = .returned (.tuple #[]) ∧ ∃ ys, NM w' B pc ys (put' D (key32 kz) v) (c + 1) ∧ (∀ i, 9 ≤ i → ys[i]? = xs[i]?) ∧ Kt B pc w w' := by
  rcases h.st with hs | ⟨g, M, f, n, ht, hT, hg, hn, h6, hz⟩
  · exact set_small pc B kz v c xs D w h.blk h.len h.pc_le hB hs hv hc
  · exact set_big pc B kz v c xs D w h.pc_le hB g M n f ht hT hg hn h6 hz hv hc
end Go.Proofs.Qxb6616938a.A
