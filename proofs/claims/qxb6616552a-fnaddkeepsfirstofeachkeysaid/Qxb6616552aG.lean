import Derived.Test.Qxb6616552aF
namespace Go.Proofs.Qxb6616552a.A
open Go.ChangeShapes Go.WideShapes Go.ChangeAt Go.RowKit Go.Maps
set_option linter.unusedVariables false

theorem FieldsAt.below {w w' : World} {B b off : Nat} {fs : List Fd} (h : FieldsAt w b off fs) (hb : Below B w w') (hbl : 0 < fs.length → b < B) : FieldsAt w' b off fs := fun i f hi => by
  have hl : i < fs.length := (List.getElem?_eq_some_iff.1 hi).1
  have hg' := hbl (by omega)
  obtain ⟨h1, h2, h3⟩ := h i f hi
  exact ⟨(hb.cell (p := ⟨b, off + i * 3, none⟩) hg').trans h1, (hb.cell (p := ⟨b, off + i * 3 + 1, none⟩) hg').trans h2, (hb.cell (p := ⟨b, off + i * 3 + 2, none⟩) hg').trans h3⟩

theorem below_drewN (B : Nat) (w : World) (n : Nat) : Below B w (w.drewN n) := by
  refine ⟨rfl, rfl, rfl, Nat.le_refl _, fun _ _ => rfl⟩

theorem st_new (w : World) : St (w.alloc (.cells #[.slice none 0 0, .map none, .nilIface] 42)) w.heap.size w.heap.size [] :=
  ⟨_, _, ⟨heap_alloc_new w _, Nat.le_refl _, World.ownsRow_nil _ _ _ _, .inl rfl⟩, fun _ => by simp⟩

/-- the input of both laws -/
structure In (w : World) (a : Option Addr) (b off : Nat) (fs : List Fd) : Prop where
  at_ : 0 < fs.length → a = some ⟨b, off, none⟩
  lt : 0 < fs.length → b < w.heap.size
  cells : FieldsAt w b off fs
  key : ∀ f ∈ fs, f.key.size ≤ maxLen
  kind : ∀ f ∈ fs, 0 ≤ f.kind ∧ f.kind ≤ 255
  len : fs.length ≤ 9223372036854775807

set_option maxRecDepth 100000 in
set_option maxHeartbeats 1000000 in
theorem law4 (a : Option Addr) (b off c : Nat) (fs : List Fd) (pr : ByteArray) (w : World) (hin : In w a b off fs) (hpr : pr.size ≤ maxLen) :
    Calls Try.prog 4 #[.slice a fs.length c, .string pr] w fun e w' => e = .returned (.bool true) ∧ Below w.heap.size w w' := by
  have HI : Hid (In w a b off fs) := hin
  have hlen := hin.len
  have HB : Hid (Calls Try.prog 15 #[.slice a fs.length c, .string pr] w fun e w' => (∃ r, e = .returned (.bool r)) ∧ w' = w) := bytes15_any a b off c fs pr w hin.at_ hin.cells hin.len
  clear hin
  unfold maxLen at hpr
  by_cases hl : 4096 < fs.length
  · go_enter Try.func4, Try.ntmps4
    go_wp2_with fail
    refine HB.out.mono ?_
    rintro e w' ⟨⟨r, rfl⟩, rfl⟩
    cases r
    all_goals
      go_wp2_with fail
      go_ret
      exact ⟨rfl, Below.refl _ _⟩
  by_cases hp : 4096 < pr.size
  · go_enter Try.func4, Try.ntmps4
    go_wp2_with fail
    refine HB.out.mono ?_
    rintro e w' ⟨⟨r, rfl⟩, rfl⟩
    cases r
    all_goals
      go_wp2_with fail
      go_ret
      exact ⟨rfl, Below.refl _ _⟩
  have hl' : fs.length ≤ 4096 := by omega
  have hp' : pr.size ≤ 4096 := by omega
  go_enter Try.func4, Try.ntmps4
  go_wp2_with fail
  refine HB.out.mono ?_
  rintro e w' ⟨⟨r, rfl⟩, rfl⟩
  cases r
  · go_wp2_with fail
    go_ret
    exact ⟨rfl, Below.refl _ _⟩
  go_wp2_with fail
  go_loopw [5, 6] (fun z t wr => ∃ (x : Int) (k n : Nat), k ≤ fs.length ∧ z = .int .i64 x ∧ t = .int .i64 k ∧ wr = World.drewN w' n) (fun _ t _ => fs.length - (intOf t).toNat)
  case atStart => exact ⟨_, 0, 0, Nat.zero_le _, rfl, rfl, rfl⟩
  case round =>
    obtain ⟨x, k, n, hk, rfl, rfl, rfl⟩ := hrel
    by_cases hlt : k < fs.length
    · obtain rfl := HI.out.at_ (by omega)
      obtain ⟨fk, hfk⟩ : ∃ f, fs[k]? = some f := ⟨_, List.getElem?_eq_getElem (by omega)⟩
      obtain ⟨d1, _, d3⟩ := HI.out.cells k fk hfk
      clear hfk
      have hkl : (k : Int) < (fs.length : Int) := by omega
      go_wp2_with fail
      go_quiet (fail)
      go_wp2_with fail
      case roundEnd =>
        go_roundw
        case rel => exact ⟨_, k + 1, n + nq, by omega, rfl, by go_num, by simp⟩
        case measure => simp [intOf]; omega
      all_goals (go_ret; exact ⟨rfl, below_drewN _ _ _⟩)
    · go_wp2_with fail
      refine (new_any _).mono ?_
      rintro e w1 ⟨rfl, hw1⟩
      have hst0 : St w1 w'.heap.size w'.heap.size [] := by rw [hw1]; exact st_new (w'.drewN n)
      have hbl0 : Below w'.heap.size w' w1 := by rw [hw1]; exact (below_drewN _ _ n).alloc (Nat.le_refl _) _
      have HS0 : Hid (St w1 w'.heap.size w'.heap.size []) := hst0
      have HL0 : Hid (Below w'.heap.size w' w1) := hbl0
      clear hst0 hbl0 hw1
      go_wp2_with fail
      go_loopw [8] (fun t wr => ∃ (k : Nat), k ≤ fs.length ∧ t = .int .i64 k ∧ St wr w'.heap.size w'.heap.size (kept fs k) ∧ Below w'.heap.size w' wr) (fun t _ => fs.length - (intOf t).toNat)
      case atStart => exact ⟨0, Nat.zero_le _, rfl, HS0.out, HL0.out⟩
      case round =>
        clear hk hlt
        obtain ⟨k, hk, rfl, hst, hbl⟩ := hrel
        have HS : Hid (St wr w'.heap.size w'.heap.size (kept fs k)) := hst
        have HL : Hid (Below w'.heap.size w' wr) := hbl
        clear hst hbl HS0 HL0
        have hkl0 := kept_len fs k
        by_cases hlt : k < fs.length
        · obtain rfl := HI.out.at_ (by omega)
          obtain ⟨fk, hfk⟩ : ∃ f, fs[k]? = some f := ⟨_, List.getElem?_eq_getElem (by omega)⟩
          have hlw : wr.heap.size ≥ w'.heap.size := HL.out.size
          have hfa := HI.out.cells.below HL.out HI.out.lt
          have hkl : (k : Int) < (fs.length : Int) := by omega
          have HFK : Hid (fs[k]? = some fk) := hfk
          have HFA : Hid (FieldsAt wr b off fs) := hfa
          obtain ⟨d1, d2, d3⟩ := hfa k fk hfk
          clear hfk hfa
          cases hh : hasK (kept fs k) fk.key
          · go_wp2_with fail
            refine (firstOf_any b off c k fs fk wr HFA.out HFK.out (by omega)).mono ?_
            rw [← kept_has, hh]
            rintro e w2 ⟨rfl, n2, rfl⟩
            go_wp2_with fail
            refine (zzhas_st w'.heap.size w'.heap.size (kept fs k) fk.key _ (HS.out.below (below_drewN _ _ n2)) (by omega)).mono ?_
            rw [hh]
            rintro e w3 ⟨rfl, hst3, hbl3⟩
            have HS3 : Hid (St w3 w'.heap.size w'.heap.size (kept fs k)) := hst3
            have hb3 := HL.out.trans ((below_drewN _ wr n2).trans hbl3)
            have HL3 : Hid (Below w'.heap.size w' w3) := hb3
            have hfa := HI.out.cells.below hb3 HI.out.lt
            have HFA3 : Hid (FieldsAt w3 b off fs) := hfa
            obtain ⟨p1, p2, p3⟩ := hfa k fk HFK.out
            clear hst3 hbl3 hb3 hfa d1 d2 d3
            go_wp2_with fail
            refine (count_st w'.heap.size w'.heap.size (kept fs k) w3 HS3.out).mono ?_
            rintro e w4 ⟨rfl, hw4⟩
            subst hw4
            go_wp2_with fail
            have HADD : Hid (Calls Try.prog 8 #[.pointer (some ⟨w'.heap.size, 0, none⟩), .string fk.key, .int .u8 fk.kind, .string fk.text] w4.drew fun e w1 => e = .returned (.bool (!hasK (kept fs k) fk.key)) ∧ St w1 w'.heap.size w'.heap.size (addM (kept fs k) fk) ∧ Below w'.heap.size w4.drew w1) :=
              zzadd_any w'.heap.size w'.heap.size (kept fs k) fk w4.drew (HS3.out.below (Below.refl _ _).drew) HS3.out.lt (by omega) (HI.out.key fk (List.mem_of_getElem? HFK.out)) (fun g hg => HI.out.key g (kept_mem fs k g hg))
            go_region_held3 (fun x => x.cell? ⟨b, off + k * 3, none⟩ = some (.string fk.key) ∧ x.cell? ⟨b, off + k * 3 + 1, none⟩ = some (.int .u8 fk.kind) ∧ x.cell? ⟨b, off + k * 3 + 2, none⟩ = some (.string fk.text)) (go_keep)
              ((go_at_call 8; refine HADD.out.mono ?_; rw [hh]; rintro e w5 ⟨rfl, hst5, hbl5⟩; obtain ⟨r1, r2, r3⟩ := (HFA3.out.below (w' := w5) ((Below.refl _ w4).drew.trans hbl5) HI.out.lt) k fk HFK.out))
            have HS5 : Hid (St w5 w'.heap.size w'.heap.size (addM (kept fs k) fk)) := hst5
            have hb5 := HL3.out.trans ((Below.refl _ w4).drew.trans hbl5)
            have HL5 : Hid (Below w'.heap.size w' w5) := hb5
            have hc0 := addM_len (kept fs k) fk
            rw [hh] at hc0
            have HC0 : Hid ((addM (kept fs k) fk).length = (kept fs k).length + 1) := hc0
            clear hst5 hbl5 hb5 p1 p2 p3 hc0 HADD HFA3 HL3 HS3
            go_wp2_with fail
            refine (zzhas_st w'.heap.size w'.heap.size (addM (kept fs k) fk) fk.key w5 HS5.out (by have := HC0.out; omega)).mono ?_
            rw [addM_has]
            rintro e w6 ⟨rfl, hst6, hbl6⟩
            have HS6 : Hid (St w6 w'.heap.size w'.heap.size (addM (kept fs k) fk)) := hst6
            have hb6 := HL5.out.trans hbl6
            have HL6 : Hid (Below w'.heap.size w' w6) := hb6
            clear hst6 hbl6 hb6 r1 r2 r3
            go_wp2_with fail
            refine (count_st w'.heap.size w'.heap.size (addM (kept fs k) fk) w6 HS6.out).mono ?_
            rw [HC0.out]
            rintro e w7 ⟨rfl, hw7⟩
            subst hw7
            go_wp2_with fail
            go_roundw
            case rel => exact ⟨k + 1, by omega, by go_num, by rw [kept_succ HFK.out]; exact HS6.out, HL6.out⟩
            case measure => simp [intOf]; omega
          · go_wp2_with fail
            refine (firstOf_any b off c k fs fk wr HFA.out HFK.out (by omega)).mono ?_
            rw [← kept_has, hh]
            rintro e w2 ⟨rfl, n2, rfl⟩
            go_wp2_with fail
            refine (zzhas_st w'.heap.size w'.heap.size (kept fs k) fk.key _ (HS.out.below (below_drewN _ _ n2)) (by omega)).mono ?_
            rw [hh]
            rintro e w3 ⟨rfl, hst3, hbl3⟩
            have HS3 : Hid (St w3 w'.heap.size w'.heap.size (kept fs k)) := hst3
            have hb3 := HL.out.trans ((below_drewN _ wr n2).trans hbl3)
            have HL3 : Hid (Below w'.heap.size w' w3) := hb3
            have hfa := HI.out.cells.below hb3 HI.out.lt
            have HFA3 : Hid (FieldsAt w3 b off fs) := hfa
            obtain ⟨p1, p2, p3⟩ := hfa k fk HFK.out
            clear hst3 hbl3 hb3 hfa d1 d2 d3
            go_wp2_with fail
            refine (count_st w'.heap.size w'.heap.size (kept fs k) w3 HS3.out).mono ?_
            rintro e w4 ⟨rfl, hw4⟩
            subst hw4
            go_wp2_with fail
            have HADD : Hid (Calls Try.prog 8 #[.pointer (some ⟨w'.heap.size, 0, none⟩), .string fk.key, .int .u8 fk.kind, .string fk.text] w4.drew fun e w1 => e = .returned (.bool (!hasK (kept fs k) fk.key)) ∧ St w1 w'.heap.size w'.heap.size (addM (kept fs k) fk) ∧ Below w'.heap.size w4.drew w1) :=
              zzadd_any w'.heap.size w'.heap.size (kept fs k) fk w4.drew (HS3.out.below (Below.refl _ _).drew) HS3.out.lt (by omega) (HI.out.key fk (List.mem_of_getElem? HFK.out)) (fun g hg => HI.out.key g (kept_mem fs k g hg))
            go_region_held3 (fun x => x.cell? ⟨b, off + k * 3, none⟩ = some (.string fk.key) ∧ x.cell? ⟨b, off + k * 3 + 1, none⟩ = some (.int .u8 fk.kind) ∧ x.cell? ⟨b, off + k * 3 + 2, none⟩ = some (.string fk.text)) (go_keep)
              ((go_at_call 8; refine HADD.out.mono ?_; rw [hh]; rintro e w5 ⟨rfl, hst5, hbl5⟩; obtain ⟨r1, r2, r3⟩ := (HFA3.out.below (w' := w5) ((Below.refl _ w4).drew.trans hbl5) HI.out.lt) k fk HFK.out))
            have HS5 : Hid (St w5 w'.heap.size w'.heap.size (addM (kept fs k) fk)) := hst5
            have hb5 := HL3.out.trans ((Below.refl _ w4).drew.trans hbl5)
            have HL5 : Hid (Below w'.heap.size w' w5) := hb5
            have hc0 := addM_len (kept fs k) fk
            rw [hh] at hc0
            have HC0 : Hid ((addM (kept fs k) fk).length = (kept fs k).length) := hc0
            clear hst5 hbl5 hb5 p1 p2 p3 hc0 HADD HFA3 HL3 HS3
            go_wp2_with fail
            refine (zzhas_st w'.heap.size w'.heap.size (addM (kept fs k) fk) fk.key w5 HS5.out (by have := HC0.out; omega)).mono ?_
            rw [addM_has]
            rintro e w6 ⟨rfl, hst6, hbl6⟩
            have HS6 : Hid (St w6 w'.heap.size w'.heap.size (addM (kept fs k) fk)) := hst6
            have hb6 := HL5.out.trans hbl6
            have HL6 : Hid (Below w'.heap.size w' w6) := hb6
            clear hst6 hbl6 hb6 r1 r2 r3
            go_wp2_with fail
            refine (count_st w'.heap.size w'.heap.size (addM (kept fs k) fk) w6 HS6.out).mono ?_
            rw [HC0.out]
            rintro e w7 ⟨rfl, hw7⟩
            subst hw7
            go_wp2_with fail
            go_roundw
            case rel => exact ⟨k + 1, by omega, by go_num, by rw [kept_succ HFK.out]; exact HS6.out, HL6.out⟩
            case measure => simp [intOf]; omega
        · have hkf : hasK (kept fs k) pr = hasK fs pr := by rw [kept_has, hasK_none (by omega)]
          have HKF : Hid (hasK (kept fs k) pr = hasK fs pr) := hkf
          clear hkf
          go_wp2_with fail
          refine (zzhas_st w'.heap.size w'.heap.size (kept fs k) pr wr HS.out (by omega)).mono ?_
          rw [HKF.out]
          rintro e w3 ⟨rfl, hst3, hbl3⟩
          have hb3 := HL.out.trans hbl3
          have HL3 : Hid (Below w'.heap.size w' w3) := hb3
          clear hst3 hbl3 hb3
          go_wp2_with fail
          refine (hasKey_any a b off c fs pr w3 HI.out.at_ (HI.out.cells.below HL3.out HI.out.lt) (by omega)).mono ?_
          rintro e w4 ⟨rfl, hw4⟩
          subst hw4
          go_wp2_with fail
          go_ret
          exact ⟨ret_bool (by simp), HL3.out⟩

end Go.Proofs.Qxb6616552a.A
