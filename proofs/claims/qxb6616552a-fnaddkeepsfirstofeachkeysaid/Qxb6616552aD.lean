import Derived.Test.Qxb6616552aE
import Derived.Deep.RegionLaw
import Derived.Deep.DrawnRows
namespace Go.Proofs.Qxb6616552a.A
open Go.ChangeShapes Go.WideShapes Go.ChangeAt Go.RowKit Go.Maps
set_option linter.unusedVariables false

attribute [local go_sem ↓] Go.wp_at_zero Go.wp_at_succ

set_option maxRecDepth 100000 in
set_option maxHeartbeats 1000000 in
theorem add_any (B p : Nat) (ms : List Fd) (f : Fd) (w : World) (hs : St w B p ms) (hB : B ≤ w.heap.size) (hl : ms.length ≤ 5000) (hk : f.key.size ≤ maxLen) (hks : ∀ g ∈ ms, g.key.size ≤ maxLen) :
    Calls Try.prog 18 #[.pointer (some ⟨p, 0, none⟩), .string f.key, .agg #[.int .u8 f.kind, .string f.text]] w fun e w' => e = .returned (.bool (!hasK ms f.key)) ∧ St w' B p (addM ms f) ∧ Below B w w' := by
  obtain ⟨v, mv, ho, h8⟩ := hs
  have hp := ho.lt
  obtain ⟨h0, h1, _⟩ := ho.cells
  obtain ⟨a, c, g, rfl, ha, hm⟩ := ho.slice
  have he1 : ∀ (w : World) (r : Option Nat), (binOp .eql 40 (.map r) (.map none)).run Try.prog w = .ok (.bool r.isNone) w := fun w r => run_eql_map_nil w _ _ _ r Try.underlying40
  obtain ⟨r, rfl⟩ : ∃ r, mv = .map r := by rcases ho.map with h | ⟨b, h, _⟩ <;> exact ⟨_, h⟩
  have HO : Hid (Ob w B p ms (keysOf ms) (.slice a ms.length c) (.map r)) := ho
  have HA : Hid (0 < ms.length → a = some ⟨g, 0, none⟩ ∧ g < w.heap.size) := ha
  have HM : Hid (MemsAt w g ms) := hm
  have H8 : Hid (Value.map r = .map none → ms.length ≤ 8) := h8
  clear ho ha hm h8
  go_enter Try.func18, Try.ntmps18
  go_upto_region 1 with fail
  go_cut [23] from 11 (fun s wx => (∃ t, s = .bool t ∧ Hid (t = (r.isNone && ((ms.length : Int) == 8)))) ∧ Pre w wx B p ms (keysOf ms) (.slice a ms.length c) (.map r) f)
  case first =>
    cases r with
    | none =>
      go_wp2_with fail
      go_meet
      exact ⟨⟨_, rfl, rfl⟩, pre_start f HO.out hB⟩
    | some b =>
      go_wp2_with fail
      go_meet
      exact ⟨⟨_, rfl, rfl⟩, pre_start f HO.out hB⟩
  case rest =>
    obtain ⟨⟨t, rfl, ht⟩, hpre⟩ := hcut
    have HP : Hid (Pre w wc B p ms (keysOf ms) (.slice a ms.length c) (.map r) f) := hpre
    clear hpre h0 h1 HO HA HM
    go_upto_if 23 with fail
    go_cut [] from 11 (fun wx => Mid w wx B p ms (.slice a ms.length c) f)
    case first =>
      cases t with
      | false =>
        go_wp2_with fail
        go_meet
        exact HP.out.mid (fun e => by
          have h := ht.out
          injection e with e
          subst e
          have h8 := H8.out rfl
          simp at h
          omega)
      | true =>
        obtain ⟨hr, h8⟩ : r = none ∧ ms.length = 8 := by
          have h := ht.out
          simp at h
          exact ⟨h.1, by omega⟩
        subst hr
        clear ht
        have h8l : (ms.length : Int) = 8 := by omega
        obtain ⟨h0, h1, _⟩ := HP.out.1.cells
        have f1 : wc.frozen? ⟨p, 1, none⟩ = false := HP.out.1.free 1
        have hp := HP.out.1.lt
        have hmk := mk40
        obtain ⟨g, ga⟩ : ∃ g, a = some ⟨g, 0, none⟩ := by
          obtain ⟨a', c', g, hv, ha, _⟩ := HP.out.1.slice
          injection hv with e1 _ _
          exact ⟨g, e1.trans (ha (by omega)).1⟩
        subst ga
        go_wp2_with fail
        go_loopw [33] (fun t wr => ∃ k : Nat, k ≤ 8 ∧ t = .int .i64 k ∧ Pre w wr B p ms (keysOf (ms.take k)) (.slice (some ⟨g, 0, none⟩) ms.length c) (.map (some wc.heap.size)) f) (fun t _ => 8 - (intOf t).toNat)
        case atStart => exact ⟨0, Nat.zero_le _, rfl, by have := pre_map HP.out hB; exact this⟩
        case round =>
          obtain ⟨k, hk8, rfl, hpr⟩ := hrel
          have HR : Hid (Pre w wr B p ms (keysOf (ms.take k)) (.slice (some ⟨g, 0, none⟩) ms.length c) (.map (some wc.heap.size)) f) := hpr
          clear hpr h0 h1 f1
          by_cases hlt : k < 8
          · obtain ⟨fk, hfk⟩ : ∃ x, ms[k]? = some x := ⟨_, List.getElem?_eq_getElem (by omega)⟩
            obtain ⟨hgl, hmm⟩ := HR.out.1.mems
            obtain ⟨d1, d2, d3, d4⟩ := hmm k fk hfk
            have hpl := HR.out.1.lt
            obtain ⟨c0, c1, _⟩ := HR.out.1.cells
            have hkl : (k : Int) < 8 := by omega
            have HFK : Hid (ms[k]? = some fk) := hfk
            obtain ⟨w1, hrun, hg1, hpre1⟩ := ((HR.out.alloc hB (.cells #[.string fk.key, .int .u8 fk.kind, .string fk.text, .bool false] 48)).drew).store (by simp [keysOf]; omega) fk.key (hks fk (List.mem_of_getElem? hfk))
            have HP1 : Hid (Pre w w1 B p ms (keysOf (ms.take k) ++ [kl fk.key]) (.slice (some ⟨g, 0, none⟩) ms.length c) (.map (some wc.heap.size)) f) := hpre1
            have k1 : w1.cell? ⟨p, 1, none⟩ = some (.map (some wc.heap.size)) := hpre1.1.cells.2.1
            have k2 : w1.cell? ⟨wr.heap.size, 0, none⟩ = some (.string fk.key) := by
              have hml := HR.out.map_lt
              rw [hg1.cell_far ⟨wr.heap.size, 0, none⟩ (by simp) (by simp; omega)]
              simp
            clear hpre1 hmm hfk hg1
            go_wp2_with fail
            go_region_held3 (fun w' => w'.cell? ⟨p, 1, none⟩ = some (.map (some wc.heap.size)) ∧ w'.cell? ⟨wr.heap.size, 0, none⟩ = some (.string fk.key)) (go_keep) (fail)
            go_wp2_with fail
            go_roundw
            case rel => exact ⟨k + 1, by omega, by go_num, by rw [keysOf_take HFK.out]; exact HP1.out⟩
            case measure => simp [intOf]; omega
          · go_wp2_with fail
            go_meet
            have e : keysOf (ms.take k) = keysOf ms := by rw [List.take_of_length_le (by omega)]
            have hR := HR.out
            rw [e] at hR
            exact hR.mid (by simp)
    case rest =>
      obtain ⟨⟨mv, ho, hm8⟩, hb1, hb2, hbl⟩ := hcut
      obtain ⟨r', hr'⟩ : ∃ r, mv = .map r := by rcases ho.map with h | ⟨b, h, _⟩ <;> exact ⟨_, h⟩
      subst hr'
      clear ht HP H8 hp
      obtain ⟨c0, c1, _⟩ := ho.cells
      have HP : Hid (Pre w wc B p ms (keysOf ms) (.slice a ms.length c) (.map r') f) := ⟨ho, hb1, hb2, hbl⟩
      have HM8 : Hid (Value.map r' = .map none → ms.length < 8) := hm8
      have q1 : wc.cell? ⟨w.heap.size, 0, none⟩ = some (.string f.key) := by simp [World.cell?, hb1]
      have hq1 : w.heap.size < wc.heap.size := lt_of_block hb1
      have hp := ho.lt
      clear ho hm8 hb1 hb2 hbl
      obtain ⟨t2, ht2⟩ : ∃ t2, Hid (t2 = !r'.isNone) := ⟨_, rfl⟩
      have he2 : ∀ (w : World), (binOp .neq 40 (.map r') (.map none)).run Try.prog w = .ok (.bool t2) w := fun w => by rw [ht2.out]; exact run_neq_map_nil w _ _ _ r' Try.underlying40
      go_upto_if 49 with fail
      go_cut [] from 11 (fun wx => Fin w wx B p ms (.slice a ms.length c) f)
      case first =>
        cases r' with
        | none =>
          obtain rfl : t2 = false := ht2.out
          obtain ⟨a', c', g', hv, ha, hm⟩ := HP.out.1.slice
          injection hv with e1 _ e3
          subst e1
          subst e3
          have HC : Hid (Calls Try.prog 20 #[.slice a ms.length c, .func (.func 21) #[] #[.pointer (some ⟨w.heap.size, 0, none⟩)]] wc fun e w' => e = .returned (.bool (hasK ms f.key)) ∧ Below wc.heap.size wc w') := contains_any w.heap.size g' c a ms f.key wc q1 ha hm (by omega)
          have h8 : ms.length < 8 := HM8.out rfl
          clear ha hm
          cases hh : hasK ms f.key
          · go_wp2_with fail
            refine HC.out.mono ?_
            rw [hh]
            rintro e w1 ⟨rfl, hb⟩
            have hp1 := HP.out.below hb
            have HP1 : Hid (Pre w w1 B p ms (keysOf ms) (.slice a ms.length c) (.map none) f) := hp1
            clear hp1 hb
            go_wp2_with fail
            go_meet
            exact ⟨hh, .map none, keysOf ms, HP1.out, fun _ => h8, .inr rfl⟩
          · go_wp2_with fail
            refine HC.out.mono ?_
            rw [hh]
            rintro e w1 ⟨rfl, hb⟩
            have hp1 := HP.out.below hb
            have HP1 : Hid (Pre w w1 B p ms (keysOf ms) (.slice a ms.length c) (.map none) f) := hp1
            clear hp1 hb
            go_wp2_with fail
            go_ret
            exact ⟨ret_bool (by rw [hh]; rfl), by rw [addM, hh]; exact ⟨_, _, HP1.out.1, fun _ => by show ms.length ≤ 8; omega⟩, HP1.out.2.2.2⟩
        | some b =>
          obtain rfl : t2 = true := ht2.out
          have l1 := (HP.out.drew).look hk
          have l2 := fun o => ((HP.out.alloc hB o).drew).look hk
          cases hh : hasK ms f.key
          · rw [hh] at l1 l2
            obtain ⟨w1, hrun, hg1, hpre1⟩ := (((HP.out.alloc hB (.cells #[] 50)).drew).drew).store (by simp [keysOf]; omega) f.key hk
            have HP1 : Hid (Pre w w1 B p ms (keysOf ms ++ [kl f.key]) (.slice a ms.length c) (.map (some b)) f) := hpre1
            have k1 : w1.cell? ⟨p, 1, none⟩ = some (.map (some b)) := hpre1.1.cells.2.1
            have k2 : w1.cell? ⟨w.heap.size, 0, none⟩ = some (.string f.key) := by simp [World.cell?, hpre1.2.1]
            clear hg1 hpre1
            go_wp2_with fail
            go_region_held3 (fun w' => w'.cell? ⟨p, 1, none⟩ = some (.map (some b)) ∧ w'.cell? ⟨w.heap.size, 0, none⟩ = some (.string f.key)) (go_keep) (fail)
            all_goals
              go_wp2_with fail
              go_region_held3 (fun w' => w'.cell? ⟨p, 1, none⟩ = some (.map (some b)) ∧ w'.cell? ⟨w.heap.size, 0, none⟩ = some (.string f.key)) (go_keep) (fail)
              go_wp2_with fail
              go_meet
              exact ⟨hh, .map (some b), _, HP1.out, by simp, .inl (by simp [keysOf])⟩
          · rw [hh] at l1 l2
            have hp1 := (HP.out.alloc hB (.cells #[] 50)).drew
            have HP1 : Hid (Pre w (wc.alloc (.cells #[] 50)).drew B p ms (keysOf ms) (.slice a ms.length c) (.map (some b)) f) := hp1
            clear hp1
            go_wp2_with fail
            go_region_held3 (fun w' => w'.cell? ⟨p, 1, none⟩ = some (.map (some b)) ∧ w'.cell? ⟨w.heap.size, 0, none⟩ = some (.string f.key)) (go_keep) (fail)
            all_goals
              go_wp2_with fail
              go_ret
              exact ⟨ret_bool (by rw [hh]; rfl), by rw [addM, hh]; exact ⟨_, _, HP1.out.1, by simp⟩, HP1.out.2.2.2⟩
      case rest =>
        clear q1 hq1 hp HP HM8 ht2 he1 he2
        obtain ⟨hh, mv, ks, hpre, h8, hks'⟩ := hcut
        obtain ⟨c0, _, _⟩ := hpre.1.cells
        have f0 := hpre.1.free 0
        have hp := hpre.1.lt
        have q1 : wc.cell? ⟨w.heap.size, 0, none⟩ = some (.string f.key) := by simp [World.cell?, hpre.2.1]
        have q2 : wc.cell? ⟨w.heap.size + 1, 0, none⟩ = some (.int .u8 f.kind) := by simp [World.cell?, hpre.2.2.1]
        have q3 : wc.cell? ⟨w.heap.size + 1, 1, none⟩ = some (.string f.text) := by simp [World.cell?, hpre.2.2.1]
        have hq1 : w.heap.size + 1 < wc.heap.size := lt_of_block hpre.2.2.1
        have hBw : B ≤ wc.heap.size := by omega
        have hown := (hpre.1.row.alloc (.cells #[.string f.key, .int .u8 f.kind, .string f.text, .bool false] 48)).drew
        obtain ⟨i0, hi, hz0, hz1, hz2⟩ := info_parts info48
        have HNW : Hid (∀ j u, (memC f)[j]? = some u → (wc.alloc (.cells #[.string f.key, .int .u8 f.kind, .string f.text, .bool false] 48)).drew.cell? ((⟨wc.heap.size, 0, none⟩ : Addr).add j) = some u) :=
          World.news_of_block (cs := #[.string f.key, .int .u8 f.kind, .string f.text, .bool false]) (heap_alloc_new wc _)
        have H1C : Hid (∀ u ∈ memC f, u.oneCell' = true) := by intro u hu; simp [memC] at hu; rcases hu with rfl | rfl | rfl | rfl <;> rfl
        have HPR : Hid (Pre w wc B p ms ks (.slice a ms.length c) mv f) := hpre
        have HOW : Hid ((wc.alloc (.cells #[.string f.key, .int .u8 f.kind, .string f.text, .bool false] 48)).drew.ownsRow B 48 4 (.slice a ms.length c) ms.length (memCells ms)) := hown
        have HKS : Hid (ks = keysOf (ms ++ [f]) ∨ mv = .map none) := hks'
        have H8 : Hid (mv = .map none → ms.length < 8) := h8
        have HHH : Hid (hasK ms f.key = false) := hh
        clear hpre hown hks' h8 hh
        go_wp2_with fail
        go_region_law ((refine step_append_lies _ (by rfl) (.tmp 76) (.tmp 80) 39 (by rfl) B 48 i0 _ 4 48 Try.underlying39 hi hz0 hz1 hz2 (by rfl) (by decide) (.slice a ms.length c) ms.length (memCells ms) (by simp [Act.eval]) HOW.out ⟨wc.heap.size, 0, none⟩ 1 1 (memC f) (by simp [Act.eval]) (by rfl) HNW.out H1C.out (by omega) (by unfold maxLen; omega) (by omega) (by simp; omega) (wc.heap.size + 1) (by simp) ?_; intro g1 cap1 w1 hown1 hgrow hat hlt; obtain ⟨e0, e1⟩ := HPR.out.grown_cells hB _ hgrow))
        all_goals
          have F := fin_push HPR.out hB _ hgrow hown1 HKS.out H8.out HHH.out
          have HFN : Hid (St (w1.setCell ⟨p, 0, none⟩ (.slice (some ⟨g1, 0, none⟩) (ms.length + 1) cap1)) B p (addM ms f) ∧ Below B w (w1.setCell ⟨p, 0, none⟩ (.slice (some ⟨g1, 0, none⟩) (ms.length + 1) cap1))) := F
          clear F hgrow hown1 hat
          go_wp2_with fail
          go_ret
          exact ⟨ret_bool (by rw [HHH.out]; rfl), HFN.out⟩

end Go.Proofs.Qxb6616552a.A
