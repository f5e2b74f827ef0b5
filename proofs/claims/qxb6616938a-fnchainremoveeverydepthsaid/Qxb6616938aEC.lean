import Derived.Test.Qxb6616938aEB
namespace Go.Proofs.Qxb6616938a.A
open Go.ChangeShapes Go.WideShapes Go.ChangeAt Go.RowKit Go.Sort
set_option linter.unusedVariables false

theorem info28 : (Try.prog.info? 28).map (fun i => (i.zero, i.size, i.bytes)) = some (some (.slice none 0 0), 1, 24) := by kernel_rfl

theorem Cl.stay {X : Nat → Prop} {w w' : World} {U : Nat} {v : Value} {ns : List Nat} (h : Cl w U v ns) (t : Turn X w w') (hx : ∀ g xs, Rw w g 24 xs → ¬ X g) : Cl w' U v ns := by
  rcases h with h | ⟨g, h1, h2, h3⟩
  · exact .inl h
  · exact .inr ⟨g, h1, t _ _ h2 (hx _ _ h2), h3⟩

theorem Cl.sl {w : World} {U : Nat} {v : Value} {ns : List Nat} (h : Cl w U v ns) : ∃ a g off c, v = .slice a ns.length c ∧ Sl w a g off (ns.map u32) := by
  rcases h with ⟨rfl, rfl⟩ | ⟨g, rfl, h2, h3⟩
  · exact ⟨none, 0, 0, 0, rfl, ⟨by simp, by simp⟩⟩
  · exact ⟨_, g, 0, _, rfl, ⟨fun _ => rfl, fun j u hj => by rw [Nat.zero_add, cells_of h2]; simpa using hj⟩⟩

/-- the first k of the copies stand -/
def Upto (wr : World) (zs : List Value) (dss : List (List Nat)) (k : Nat) : Prop := ∀ (j : Nat) (ds : List Nat), j < k → dss[j]? = some ds → ∃ v, zs[j]? = some v ∧ Cl wr 0 v ds

set_option maxRecDepth 100000 in
set_option maxHeartbeats 1000000 in
/-- zzCloneU32s -/
theorem clones_any (a : Option Addr) (g off c : Nat) (dss : List (List Nat)) (w : World) (hs : SS w a g off dss) (hl : dss.length ≤ 4096) (hls : ∀ (j : Nat) (ds : List Nat), dss[j]? = some ds → ds.length ≤ 262144) :
    Calls Try.prog 10 #[.slice a dss.length c] w fun e w' => ∃ a' g' c', e = .returned (.slice a' dss.length c') ∧ SS w' a' g' 0 dss ∧ Kept [] w w' := by
  have hmk := run_make_row' (P := Try.prog) 23 28 (.slice none 0 0) 24 Try.underlying23 info28 rfl .i64 .i64 dss.length (by omega) (by omega)
  have he : ∀ (w : World), (binOp .eql 23 (.slice a dss.length c) (.slice none 0 0)).run Try.prog w = .ok (.bool a.isNone) w := fun w => Lib.run_eql_slice_nil w 23 28 a _ _ _ _ Try.underlying23
  obtain ⟨u, hu⟩ : ∃ u, Hid (u = a.isNone) := ⟨_, rfl⟩
  rw [← hu.out] at he
  have HS : Hid (SS w a g off dss) := hs
  have HLS : Hid (∀ (j : Nat) (ds : List Nat), dss[j]? = some ds → ds.length ≤ 262144) := hls
  clear hs hls
  cases u with
  | true =>
    have hd : dss = [] := by
      have := hu.out
      cases a with
      | none => exact List.eq_nil_of_length_eq_zero (Nat.eq_zero_of_not_pos fun h => by have := HS.out.at_ h; cases this)
      | some _ => cases this
    have HD : Hid (dss = []) := hd
    clear hd
    go_enter Try.func10, Try.ntmps10
    go_wp2_with fail
    go_ret
    refine ⟨none, 0, 0, by rw [HD.out]; rfl, ⟨fun h => ?_, fun j ds hj => ?_⟩, Kept.refl _ _⟩
    · rw [HD.out] at h; simp at h
    · rw [HD.out] at hj; simp at hj
  | false =>
    clear hu
    have hG := heap_alloc_new w (.cells (madeCells #[.slice none 0 0] dss.length) 28)
    have HG : Hid (Rw (w.alloc (.cells (madeCells #[.slice none 0 0] dss.length) 28)) w.heap.size 28 (List.replicate dss.length (.slice none 0 0))) := by
      unfold Hid Rw; rw [hG, made_list]
    clear hG
    go_enter Try.func10, Try.ntmps10
    go_wp2_with fail
    go_loopw [4] (fun t wr => ∃ (k : Nat) (zs : List Value), k ≤ dss.length ∧ t = .int .i64 k ∧ zs.length = dss.length ∧ Rw wr w.heap.size 28 zs ∧ Upto wr zs dss k ∧ Kept [] w wr) (fun t _ => dss.length - (intOf t).toNat)
    case atStart => exact ⟨0, _, Nat.zero_le _, rfl, by simp, HG.out, fun j ds hj => by omega, (Kept.refl _ _).alloc _⟩
    case round =>
      obtain ⟨k, zs, hk, rfl, hzl, hrw, hup, hkp⟩ := hrel
      have HRW : Hid (Rw wr w.heap.size 28 zs) := hrw
      have HUP : Hid (Upto wr zs dss k) := hup
      have HKP : Hid (Kept [] w wr) := hkp
      clear hrw hup hkp
      by_cases hlt : k < dss.length
      · obtain rfl := HS.out.at_ (by omega)
        obtain ⟨ds, hd⟩ : ∃ d, dss[k]? = some d := ⟨_, List.getElem?_eq_getElem hlt⟩
        obtain ⟨a', g', off', c', e0, hsl⟩ := HS.out.cells k ds hd
        have e1 := cell_below HKP.out.low (Nat.le_refl _) e0
        have hml := HLS.out k ds hd
        have hcl := clone_any a' g' off' c' ds wr (hsl.kept0 HKP.out) (by omega) (fun h => by have := hsl.nil h; simpa using this)
        have HCL : Hid (Calls Try.prog 17 #[.slice a' ds.length c'] wr fun e w' => ∃ v, e = .returned v ∧ Kept [] wr w' ∧ Cl w' 0 v ds) := hcl.mono (by
          rintro e w' ⟨h1, ⟨rfl, h2⟩ | ⟨rfl, h2⟩⟩
          · exact ⟨_, rfl, h1, .inl ⟨rfl, h2⟩⟩
          · exact ⟨_, rfl, h1, .inr ⟨_, rfl, h2, Nat.zero_le _⟩⟩)
        have HDk : Hid (dss[k]? = some ds) := hd
        have hkI : (k : Int) < (dss.length : Int) := by omega
        clear hcl hsl e0 hd
        go_wp2_with fail
        refine HCL.out.mono ?_
        rintro e w1 ⟨v, rfl, hk1, hv⟩
        clear HCL
        have hrw1 := HRW.out.kept hk1 (by simp)
        have f1 : w1.frozen? ⟨w.heap.size, k, none⟩ = false := free_of hrw1 k
        obtain ⟨v0, d1⟩ : ∃ v0, w1.cell? ⟨w.heap.size, k, none⟩ = some v0 := ⟨_, by rw [cells_of hrw1]; simp; exact List.getElem?_eq_getElem (by omega)⟩
        have HF : Hid (Rw (w1.setCell ⟨w.heap.size, k, none⟩ v) w.heap.size 28 (zs.set k v) ∧ Upto (w1.setCell ⟨w.heap.size, k, none⟩ v) (zs.set k v) dss (k + 1) ∧ Kept [] w (w1.setCell ⟨w.heap.size, k, none⟩ v)) := by
          have kk : Kept [w.heap.size] w1 (w1.setCell ⟨w.heap.size, k, none⟩ v) := (Kept.refl _ _).setCell (by simp) _
          have hx : ∀ g xs, Rw w1 g 24 xs → ¬ (g ∈ [w.heap.size]) := fun g xs h1 h2 => h1.ne hrw1 (by decide) (by simpa using h2)
          refine ⟨hrw1.set k v, fun j ds' hj hd' => ?_, (HKP.out.trans hk1).setNew (by simp) _⟩
          by_cases e : j = k
          · subst e
            rw [HDk.out] at hd'
            obtain rfl := Option.some.inj hd'
            exact ⟨v, List.getElem?_set_self (by omega), hv.stay kk.turn hx⟩
          · obtain ⟨v', h1, h2⟩ := HUP.out j ds' (by omega) hd'
            refine ⟨v', by rw [List.getElem?_set_ne (fun e' => e e'.symm)]; exact h1, ?_⟩
            exact (h2.stay hk1.turn (by simp)).stay kk.turn hx
        obtain ⟨a3, n3, c3, hv3⟩ : ∃ a3 n3 c3, v = .slice a3 n3 c3 := by
          obtain ⟨a3, _, _, c3, h3, _⟩ := hv.sl
          exact ⟨_, _, _, h3⟩
        subst hv3
        clear hv hk1 hrw1 HRW HUP HKP
        go_wp2_with fail
        go_roundw
        case rel =>
          obtain ⟨h1, h2, h3⟩ := HF.out
          exact ⟨k + 1, _, by omega, by go_num, by simp [hzl], h1, h2, h3⟩
        case measure => simp [intOf]; omega
      · go_wp2_with fail
        go_ret
        refine ⟨_, w.heap.size, _, rfl, ⟨fun _ => rfl, fun j ds hj => ?_⟩, HKP.out⟩
        have hjl := (List.getElem?_eq_some_iff.1 hj).1
        obtain ⟨v, h1, h2⟩ := HUP.out j ds (by omega) hj
        obtain ⟨a', g', off', c', rfl, h3⟩ := h2.sl
        exact ⟨a', g', off', c', by rw [Nat.zero_add, cells_of HRW.out]; simpa using h1, h3⟩
end Go.Proofs.Qxb6616938a.A
