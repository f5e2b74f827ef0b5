import Derived.Test.Qxb6616552aG
namespace Go.Proofs.Qxb6616552a.A
open Go.ChangeShapes Go.WideShapes Go.ChangeAt Go.RowKit Go.Maps
set_option linter.unusedVariables false

theorem kept_prefix (fs : List Fd) (i d : Nat) : ∃ l, kept fs (i + d) = kept fs i ++ l := by
  induction d with
  | zero => exact ⟨[], by simp⟩
  | succ d ih =>
    obtain ⟨l, hl⟩ := ih
    cases hf : fs[i + d]? with
    | none => exact ⟨l, by rw [← Nat.add_assoc]; simp [kept, hf, hl]⟩
    | some f =>
      rw [← Nat.add_assoc, kept_succ hf]
      unfold addM
      split
      · exact ⟨l, hl⟩
      · exact ⟨l ++ [f], by rw [hl]; simp⟩

theorem kept_at {fs : List Fd} {i j : Nat} {f : Fd} (h : fs[i]? = some f) (hn : hasK (kept fs i) f.key = false) (hij : i < j) : (kept fs j)[(kept fs i).length]? = some f := by
  obtain ⟨l, hl⟩ := kept_prefix fs (i + 1) (j - (i + 1))
  rw [show i + 1 + (j - (i + 1)) = j from by omega, kept_succ h] at hl
  rw [hl, addM, hn]
  simp

theorem St.at {w : World} {B p : Nat} {ms : List Fd} (h : St w B p ms) {i : Nat} {f : Fd} (hi : ms[i]? = some f) :
    ∃ g c, w.cell? ⟨p, 0, none⟩ = some (.slice (some ⟨g, 0, none⟩) ms.length c) ∧ i < ms.length ∧ w.cell? ⟨g, i * 4, none⟩ = some (.string f.key) ∧ w.cell? ⟨g, i * 4 + 1, none⟩ = some (.int .u8 f.kind) ∧ w.cell? ⟨g, i * 4 + 2, none⟩ = some (.string f.text) ∧ w.cell? ⟨g, i * 4 + 3, none⟩ = some (.bool false) := by
  obtain ⟨v, mv, ho, h8⟩ := h
  obtain ⟨a, c, g, rfl, ha, hm⟩ := ho.slice
  have hl : i < ms.length := (List.getElem?_eq_some_iff.1 hi).1
  obtain ⟨rfl, _⟩ := ha (by omega)
  exact ⟨g, c, ho.cells.1, hl, hm i f hi⟩

theorem key_st (B p i : Nat) (ms : List Fd) (f : Fd) (w : World) (h : St w B p ms) (hi : ms[i]? = some f) :
    Calls Try.prog 10 #[.pointer (some ⟨p, 0, none⟩), .int .i64 i] w fun e w' => e = .returned (.string f.key) ∧ w' = w := by
  obtain ⟨g, c, h0, hl, h1, h2, h3, h4⟩ := h.at hi
  exact key_any p g ms.length c i f.key w h0 hl h1
theorem kind_st (B p i : Nat) (ms : List Fd) (f : Fd) (w : World) (h : St w B p ms) (hi : ms[i]? = some f) (hk : 0 ≤ f.kind ∧ f.kind ≤ 255) :
    Calls Try.prog 11 #[.pointer (some ⟨p, 0, none⟩), .int .i64 i] w fun e w' => e = .returned (.int .u8 f.kind) ∧ w' = w := by
  obtain ⟨g, c, h0, hl, h1, h2, h3, h4⟩ := h.at hi
  exact kind_any p g ms.length c i f.kind w h0 hl h2 hk
theorem text_st (B p i : Nat) (ms : List Fd) (f : Fd) (w : World) (h : St w B p ms) (hi : ms[i]? = some f) :
    Calls Try.prog 12 #[.pointer (some ⟨p, 0, none⟩), .int .i64 i] w fun e w' => e = .returned (.string f.text) ∧ w' = w := by
  obtain ⟨g, c, h0, hl, h1, h2, h3, h4⟩ := h.at hi
  exact text_any p g ms.length c i f.text w h0 hl h3
theorem taken_st (B p i : Nat) (ms : List Fd) (f : Fd) (w : World) (h : St w B p ms) (hi : ms[i]? = some f) :
    Calls Try.prog 13 #[.pointer (some ⟨p, 0, none⟩), .int .i64 i] w fun e w' => e = .returned (.bool false) ∧ w' = w := by
  obtain ⟨g, c, h0, hl, h1, h2, h3, h4⟩ := h.at hi
  exact taken_any p g ms.length c i false w h0 hl h4
theorem err_st (B p : Nat) (ms : List Fd) (w : World) (h : St w B p ms) :
    Calls Try.prog 14 #[.pointer (some ⟨p, 0, none⟩)] w fun e w' => e = .returned .nilIface ∧ w' = w := by
  obtain ⟨v, mv, ho, h8⟩ := h
  exact err_any p w ho.cells.2.2

set_option maxRecDepth 100000 in
set_option maxHeartbeats 1000000 in
theorem law3 (a : Option Addr) (b off c : Nat) (fs : List Fd) (w : World) (hin : In w a b off fs) :
    Calls Try.prog 3 #[.slice a fs.length c] w fun e w' => e = .returned (.bool true) ∧ Below w.heap.size w w' := by
  have HI : Hid (In w a b off fs) := hin
  have hlen := hin.len
  have HB : Hid (Calls Try.prog 5 #[.slice a fs.length c] w fun e w' => (∃ r, e = .returned (.bool r)) ∧ w' = w) := bytes5_any a b off c fs w hin.at_ hin.cells hin.len
  clear hin
  by_cases hl : 4096 < fs.length
  · go_enter Try.func3, Try.ntmps3
    go_wp2_with fail
    refine HB.out.mono ?_
    rintro e w' ⟨⟨r, rfl⟩, rfl⟩
    cases r
    all_goals
      go_wp2_with fail
      go_ret
      exact ⟨rfl, Below.refl _ _⟩
  have hl' : fs.length ≤ 4096 := by omega
  go_enter Try.func3, Try.ntmps3
  go_wp2_with fail
  refine HB.out.mono ?_
  rintro e w' ⟨⟨r, rfl⟩, rfl⟩
  cases r
  · go_wp2_with fail
    go_ret
    exact ⟨rfl, Below.refl _ _⟩
  go_wp2_with fail
  go_loopw [3, 4] (fun z t wr => ∃ (x : Int) (k n : Nat), k ≤ fs.length ∧ z = .int .i64 x ∧ t = .int .i64 k ∧ wr = World.drewN w' n) (fun _ t _ => fs.length - (intOf t).toNat)
  case atStart => exact ⟨_, 0, 0, Nat.zero_le _, rfl, rfl, rfl⟩
  case round =>
    obtain ⟨x, k, n, hk, rfl, rfl, rfl⟩ := hrel
    by_cases hlt : k < fs.length
    · obtain rfl := HI.out.at_ (by omega)
      obtain ⟨fk, hfk⟩ : ∃ f, fs[k]? = some f := ⟨_, List.getElem?_eq_getElem (by omega)⟩
      obtain ⟨d1, _, d3⟩ := HI.out.cells k fk hfk
      clear hfk
      have hkl : (k : Int) < (fs.length : Int) := by omega
      go_wp2_with fail
      go_quiet (fail)
      go_wp2_with fail
      case roundEnd =>
        go_roundw
        case rel => exact ⟨_, k + 1, n + nq, by omega, rfl, by go_num, by simp⟩
        case measure => simp [intOf]; omega
      all_goals (go_ret; exact ⟨rfl, below_drewN _ _ _⟩)
    · go_wp2_with fail
      refine (new_any _).mono ?_
      rintro e w1 ⟨rfl, hw1⟩
      have hst0 : St w1 w'.heap.size w'.heap.size [] := by rw [hw1]; exact st_new (w'.drewN n)
      have hbl0 : Below w'.heap.size w' w1 := by rw [hw1]; exact (below_drewN _ _ n).alloc (Nat.le_refl _) _
      have HS0 : Hid (St w1 w'.heap.size w'.heap.size []) := hst0
      have HL0 : Hid (Below w'.heap.size w' w1) := hbl0
      clear hst0 hbl0 hw1
      go_wp2_with fail
      go_loopw [6, 7] (fun z t wr => ∃ (k : Nat), k ≤ fs.length ∧ z = .int .i64 (kept fs k).length ∧ t = .int .i64 k ∧ St wr w'.heap.size w'.heap.size (kept fs k) ∧ Below w'.heap.size w' wr) (fun _ t _ => fs.length - (intOf t).toNat)
      case atStart => exact ⟨0, Nat.zero_le _, rfl, rfl, HS0.out, HL0.out⟩
      case round =>
        clear hk hlt
        obtain ⟨k, hk, rfl, rfl, hst, hbl⟩ := hrel
        have HS : Hid (St wr w'.heap.size w'.heap.size (kept fs k)) := hst
        have HL : Hid (Below w'.heap.size w' wr) := hbl
        clear hst hbl HS0 HL0
        have hkl0 := kept_len fs k
        by_cases hlt : k < fs.length
        · obtain rfl := HI.out.at_ (by omega)
          obtain ⟨fk, hfk⟩ : ∃ f, fs[k]? = some f := ⟨_, List.getElem?_eq_getElem (by omega)⟩
          have hlw : wr.heap.size ≥ w'.heap.size := HL.out.size
          have hfa := HI.out.cells.below HL.out HI.out.lt
          have hkl : (k : Int) < (fs.length : Int) := by omega
          have HFK : Hid (fs[k]? = some fk) := hfk
          have HFA : Hid (FieldsAt wr b off fs) := hfa
          obtain ⟨d1, d2, d3⟩ := hfa k fk hfk
          clear hfk hfa
          cases hh : hasK (kept fs k) fk.key
          all_goals
            go_wp2_with fail
            refine (firstOf_any b off c k fs fk wr HFA.out HFK.out (by omega)).mono ?_
            rw [← kept_has, hh]
            rintro e w2 ⟨rfl, n2, rfl⟩
            go_wp2_with fail
            have hsd : St (wr.drewN n2).drew w'.heap.size w'.heap.size (kept fs k) := (HS.out.below (below_drewN _ _ n2)).below (Below.refl _ _).drew
            have HADD : Hid (Calls Try.prog 8 #[.pointer (some ⟨w'.heap.size, 0, none⟩), .string fk.key, .int .u8 fk.kind, .string fk.text] (wr.drewN n2).drew fun e w1 => e = .returned (.bool (!hasK (kept fs k) fk.key)) ∧ St w1 w'.heap.size w'.heap.size (addM (kept fs k) fk) ∧ Below w'.heap.size (wr.drewN n2).drew w1) :=
              zzadd_any w'.heap.size w'.heap.size (kept fs k) fk (wr.drewN n2).drew hsd hsd.lt (by omega) (HI.out.key fk (List.mem_of_getElem? HFK.out)) (fun g hg => HI.out.key g (kept_mem fs k g hg))
            clear hsd
            go_region_held3 (fun x => x.cell? ⟨b, off + k * 3, none⟩ = some (.string fk.key) ∧ x.cell? ⟨b, off + k * 3 + 1, none⟩ = some (.int .u8 fk.kind) ∧ x.cell? ⟨b, off + k * 3 + 2, none⟩ = some (.string fk.text)) (go_keep)
              ((go_at_call 8; refine HADD.out.mono ?_; rw [hh]; rintro e w5 ⟨rfl, hst5, hbl5⟩; obtain ⟨r1, r2, r3⟩ := (HFA.out.below (w' := w5) ((below_drewN _ wr n2).trans ((Below.refl _ _).drew.trans hbl5)) HI.out.lt) k fk HFK.out))
            have HS5 : Hid (St w5 w'.heap.size w'.heap.size (addM (kept fs k) fk)) := hst5
            have hb5 := HL.out.trans ((below_drewN _ wr n2).trans ((Below.refl _ _).drew.trans hbl5))
            have HL5 : Hid (Below w'.heap.size w' w5) := hb5
            have hc0 := addM_len (kept fs k) fk
            rw [hh, ← kept_succ HFK.out] at hc0
            simp only [Bool.false_eq_true, if_false, if_true, Nat.add_zero] at hc0
            obtain ⟨q, hq⟩ : ∃ q, q = (kept fs (k + 1)).length := ⟨_, rfl⟩
            rw [← hq] at hc0
            have HQ : Hid (q = (kept fs (k + 1)).length) := hq
            have HC0 := hc0
            clear hst5 hbl5 hb5 r1 r2 r3 hc0 HADD hq d1 d2 d3
            go_wp2_with fail
            go_roundw
            case rel => exact ⟨k + 1, by omega, by rw [← HQ.out]; go_num, by go_num, by rw [kept_succ HFK.out]; exact HS5.out, HL5.out⟩
            case measure => simp [intOf]; omega
        · obtain rfl : k = fs.length := by omega
          go_wp2_with fail
          refine (count_st w'.heap.size w'.heap.size (kept fs fs.length) wr HS.out).mono ?_
          rintro e w4 ⟨rfl, hw4⟩
          subst hw4
          go_wp2_with fail
          go_loopw [9, 10] (fun z t wr => ∃ (k n : Nat), k ≤ fs.length ∧ z = .int .i64 (kept fs k).length ∧ t = .int .i64 k ∧ wr = World.drewN w4 n) (fun _ t _ => fs.length - (intOf t).toNat)
          case atStart => exact ⟨0, 0, Nat.zero_le _, rfl, rfl, rfl⟩
          case round =>
            clear hk hlt hkl0
            obtain ⟨k, n4, hk, rfl, rfl, rfl⟩ := hrel
            have hkl0 := kept_len fs k
            by_cases hlt : k < fs.length
            · obtain rfl := HI.out.at_ (by omega)
              obtain ⟨fk, hfk⟩ : ∃ f, fs[k]? = some f := ⟨_, List.getElem?_eq_getElem (by omega)⟩
              have hfa := HI.out.cells.below HL.out HI.out.lt
              have hkl : (k : Int) < (fs.length : Int) := by omega
              have HFK : Hid (fs[k]? = some fk) := hfk
              have HFA : Hid (FieldsAt w4 b off fs) := hfa
              obtain ⟨d1, d2, d3⟩ := hfa k fk hfk
              clear hfk hfa
              have hf7 := fun m => (firstOf_any b off c k fs fk (World.drewN w4 m) HFA.out HFK.out (by omega))
              have HF7 : Hid (∀ m, Calls Try.prog 7 #[.slice (some ⟨b, off, none⟩) fs.length c, .int .i64 k] (World.drewN w4 m) fun e w' => e = .returned (.bool (!hasK (fs.take k) fk.key)) ∧ ∃ n, w' = (World.drewN w4 m).drewN n) := hf7
              clear hf7
              have hc0 := addM_len (kept fs k) fk
              rw [← kept_succ HFK.out] at hc0
              cases hh : hasK (kept fs k) fk.key
              · rw [hh] at hc0
                have hat := kept_at HFK.out hh hlt
                have HAT : Hid ((kept fs fs.length)[(kept fs k).length]? = some fk) := hat
                simp only [Bool.false_eq_true, if_false] at hc0
                have HC0 : Hid ((kept fs (k + 1)).length = (kept fs k).length + 1) := hc0
                obtain ⟨q, hq⟩ : ∃ q, q = (kept fs k).length := ⟨_, rfl⟩
                have HQ : Hid (q = (kept fs k).length) := hq
                rw [← hq] at hat
                rw [← hq]
                have HA2 : Hid ((kept fs fs.length)[q]? = some fk) := hat
                have hq4 : q ≤ 4096 := by omega
                have h255 := HI.out.kind fk (List.mem_of_getElem? HFK.out)
                clear hq hc0 hat
                go_wp2_with fail
                refine (HF7.out _).mono ?_
                rw [← kept_has, hh]
                rintro e w5 ⟨rfl, n5, hw5⟩
                have hsm : ∀ m, St (World.drewN w5 m) w'.heap.size w'.heap.size (kept fs fs.length) := fun m => by rw [hw5]; exact ((HS.out.below (below_drewN _ _ n4)).below (below_drewN _ _ n5)).below (below_drewN _ _ m)
                have H10 : Hid (∀ m, Calls Try.prog 10 #[.pointer (some ⟨w'.heap.size, 0, none⟩), .int .i64 q] (World.drewN w5 m) fun e wx => e = .returned (.string fk.key) ∧ wx = World.drewN w5 m) := fun m => key_st w'.heap.size w'.heap.size q (kept fs fs.length) fk _ (hsm m) HA2.out
                have H11 : Hid (∀ m, Calls Try.prog 11 #[.pointer (some ⟨w'.heap.size, 0, none⟩), .int .i64 q] (World.drewN w5 m) fun e wx => e = .returned (.int .u8 fk.kind) ∧ wx = World.drewN w5 m) := fun m => kind_st w'.heap.size w'.heap.size q (kept fs fs.length) fk _ (hsm m) HA2.out h255
                have H12 : Hid (∀ m, Calls Try.prog 12 #[.pointer (some ⟨w'.heap.size, 0, none⟩), .int .i64 q] (World.drewN w5 m) fun e wx => e = .returned (.string fk.text) ∧ wx = World.drewN w5 m) := fun m => text_st w'.heap.size w'.heap.size q (kept fs fs.length) fk _ (hsm m) HA2.out
                have H13 : Hid (∀ m, Calls Try.prog 13 #[.pointer (some ⟨w'.heap.size, 0, none⟩), .int .i64 q] (World.drewN w5 m) fun e wx => e = .returned (.bool false) ∧ wx = World.drewN w5 m) := fun m => taken_st w'.heap.size w'.heap.size q (kept fs fs.length) fk _ (hsm m) HA2.out
                have p1 : w5.cell? ⟨b, off + k * 3, none⟩ = some (.string fk.key) := by rw [hw5]; exact d1
                have p2 : w5.cell? ⟨b, off + k * 3 + 1, none⟩ = some (.int .u8 fk.kind) := by rw [hw5]; exact d2
                have p3 : w5.cell? ⟨b, off + k * 3 + 2, none⟩ = some (.string fk.text) := by rw [hw5]; exact d3
                have HW5 : Hid (w5 = (World.drewN w4 n4).drewN n5) := hw5
                clear hsm d1 d2 d3 hw5
                go_wp2_with fail
                go_quiet ((first | (go_at_call 10; exact Calls.quiet_of_same (H10.out _)) | (go_at_call 11; exact Calls.quiet_of_same (H11.out _)) | (go_at_call 12; exact Calls.quiet_of_same (H12.out _)) | (go_at_call 13; exact Calls.quiet_of_same (H13.out _))))
                go_wp2_with fail
                go_roundw
                case rel => exact ⟨k + 1, n4 + n5 + nq, by omega, by rw [HC0.out, ← HQ.out]; go_num, by go_num, by rw [HW5.out]; simp⟩
                case measure => simp [intOf]; omega
              · rw [hh] at hc0
                simp only [if_true, Nat.add_zero] at hc0
                have HC0 : Hid ((kept fs (k + 1)).length = (kept fs k).length) := hc0
                clear hc0
                go_wp2_with fail
                refine (HF7.out _).mono ?_
                rw [← kept_has, hh]
                rintro e w5 ⟨rfl, n5, rfl⟩
                go_wp2_with fail
                go_roundw
                case rel => exact ⟨k + 1, n4 + n5, by omega, by rw [HC0.out], by go_num, by simp⟩
                case measure => simp [intOf]; omega
            · go_wp2_with fail
              refine (err_st w'.heap.size w'.heap.size (kept fs fs.length) _ (HS.out.below (below_drewN _ _ n4))).mono ?_
              rintro e w5 ⟨rfl, hw5⟩
              subst hw5
              go_wp2_with fail
              go_ret
              exact ⟨rfl, HL.out.trans (below_drewN _ _ n4)⟩

end Go.Proofs.Qxb6616552a.A
