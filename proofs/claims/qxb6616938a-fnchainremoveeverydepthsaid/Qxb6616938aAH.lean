import Derived.Test.Qxb6616938aAG
namespace Go.Proofs.Qxb6616938a.A
open Go.ChangeShapes Go.WideShapes Go.ChangeAt Go.RowKit Go.Sort
set_option linter.unusedVariables false

/-- 's[l:h]' -/
theorem slice_mid {T t : TypeId} (hT : Try.prog.underlying T = some (.slice t)) (hs : (Try.prog.info? t).map (·.size) = some 1) (a : Option Addr) (n q l h : Nat) (hl : l ≤ h) (hq : h ≤ q) (hq' : q ≤ 9223372036854775807) :
    ∃ a2, (∀ w, (Instr.slice T (.slice a n q) (some (.int .i64 l)) (some (.int .i64 h)) none).run Try.prog w = .ok (.slice a2 (h - l) (q - l)) w) ∧ ∀ g, a = some ⟨g, 0, none⟩ → l < q → a2 = some ⟨g, l, none⟩ := by
  have he : Try.prog.elem T = t := by simp [Program.elem, hT]
  refine ⟨if q = l then a else a.map (·.add (l * 1)), fun w => ?_, fun g h1 h2 => ?_⟩
  · rw [run_slice_lh (P := Try.prog) (w := w) T a n q (by rw [he]; exact hT) .i64 .i64 l h (by omega) (by omega) (by omega), he]
    obtain ⟨i, hi, hz⟩ := Option.map_eq_some_iff.1 hs
    simp [sizeOf, typeInfo, hi, hz, sliced]
  · have hne : q ≠ l := by omega
    rw [if_neg hne, h1, Nat.mul_one]
    show some ((⟨g, 0, none⟩ : Addr).add l) = _
    rw [add_plain, Nat.zero_add]

theorem Kept.setRow {S : List Nat} {a b : World} (h : Kept S a b) {g : Nat} (hg : g ∈ S) (cs : Array Value) : Kept S a (b.setRow g cs) :=
  h.trans ⟨rfl, rfl, rfl, by simp [World.setRow], fun k _ hn => by
    have : k ≠ g := fun e => hn (e ▸ hg)
    simp only [World.setRow, Array.getElem?_modify]
    rw [if_neg (fun e => this e.symm)]⟩

/-- what the copy of remove leaves: the items ahead of i lie one place further -/
theorem Dq.moved {w : World} {pd gb n cap st i : Nat} {vs : List Nat} (h : Dq w pd gb n cap st vs) (hi : st + i < n) (a1 a2 : Option Addr) (h1 : st + 1 < cap → a1 = some ⟨gb, st + 1, none⟩) (h2 : st < cap → a2 = some ⟨gb, st, none⟩) (ty : TypeId) :
    ∃ w2, (Builtin.copy_ #[28, 28] ty #[.slice a1 (n - (st + 1)) (cap - (st + 1)), .slice a2 i (cap - st)]).run Try.prog w = .ok (.int .i64 i) w2 ∧ (∃ zs, Rw w2 gb 24 zs) ∧ (∀ (j v : Nat), (vs.take (st + 1) ++ ((vs.drop st).take i ++ vs.drop (st + i + 1)))[j]? = some v → w2.cell? ⟨gb, j, none⟩ = some (u32 v)) ∧ Kept [gb] w w2 := by
  obtain ⟨zs, hz⟩ := h.row
  have hl := h.len
  have hn := h.n_le
  have hzs : n ≤ zs.length := by
    by_cases e : n = 0
    · omega
    · have := h.cells (n - 1) vs[n - 1] (List.getElem?_eq_getElem (by omega))
      rw [cells_of hz] at this
      simp at this
      have := (List.getElem?_eq_some_iff.1 this).1
      omega
  by_cases h0 : i = 0
  · subst h0
    refine ⟨w, run_copy_none (P := Try.prog) _ 28 28 ty 24 _ _ _ _ _ _ Try.underlying28 sz24 (by simp), ⟨zs, hz⟩, fun j v hj => h.cells j v ?_, Kept.refl _ _⟩
    simpa using hj
  · obtain rfl := h1 (by omega)
    obtain rfl := h2 (by omega)
    have hcs : ∀ j v, (((vs.drop st).take i).map u32)[j]? = some v → w.cell? ((⟨gb, st, none⟩ : Addr).add j) = some v := fun j v hj => by
      rw [List.getElem?_map] at hj
      obtain ⟨x, hx, rfl⟩ := Option.map_eq_some_iff.1 hj
      rw [List.getElem?_take] at hx
      split at hx
      · rw [List.getElem?_drop] at hx
        rw [add_plain]; exact h.cells _ _ hx
      · cases hx
    have hlen : (((vs.drop st).take i).map u32).length = i := by simp; omega
    have hr := run_copy_row (P := Try.prog) w 28 28 ty 24 gb (st + 1) (n - (st + 1)) (cap - (st + 1)) ⟨gb, st, none⟩ i (cap - st) zs.toArray 24 (((vs.drop st).take i).map u32) Try.underlying28 sz24 hz (by rw [hlen]; exact (Nat.min_eq_left (by omega)).symm) hcs (by rw [hlen]; simp; omega) (fun v hv => by
      obtain ⟨x, _, rfl⟩ := List.mem_map.1 hv; rfl)
    rw [hlen] at hr
    refine ⟨_, hr, ⟨_, setRow_heap _ _ _ _ 24 (0, 0) hz⟩, fun j v hj => ?_, (Kept.refl _ _).setRow (by simp) _⟩
    rw [cells_of (setRow_heap _ _ _ _ 24 (0, 0) hz)]
    have hcell : ∀ j v : Nat, vs[j]? = some v → zs[j]? = some (u32 v) := fun j v hv => by
      have := h.cells j v hv
      rw [cells_of hz] at this
      simpa using this
    simp only [List.getElem?_toArray]
    rw [List.append_assoc]
    by_cases c1 : j < st + 1
    · rw [List.getElem?_append_left (by simp; omega)] at hj ⊢
      rw [List.getElem?_take, if_pos c1] at hj ⊢
      exact hcell j v hj
    · rw [List.getElem?_append_right (by simp; omega)] at hj ⊢
      have e1 : (List.take (st + 1) vs).length = st + 1 := by simp; omega
      have e2 : (List.take (st + 1) zs).length = st + 1 := by simp; omega
      rw [e1] at hj
      rw [e2]
      have e3 : (List.take i (List.drop st vs)).length = i := by simp; omega
      by_cases c2 : j - (st + 1) < i
      · rw [List.getElem?_append_left (by rw [e3]; exact c2)] at hj
        rw [List.getElem?_append_left (by rw [hlen]; exact c2), List.getElem?_map, hj]
        rfl
      · rw [List.getElem?_append_right (by rw [e3]; omega), e3, List.getElem?_drop] at hj
        rw [List.getElem?_append_right (by rw [hlen]; omega), hlen, List.getElem?_drop]
        have e4 : st + i + 1 + (j - (st + 1) - i) = j := by omega
        have e5 : st + 1 + i + (j - (st + 1) - i) = j := by omega
        rw [e4] at hj
        rw [e5]
        exact hcell j v hj

/-- behind the copy the first place is cleared, and the items begin one place further -/
theorem Dq.low {w w2 : World} {pd gb n cap st i : Nat} {vs : List Nat} (h : Dq w pd gb n cap st vs) (hi : st + i < n) (hz : ∃ zs, Rw w2 gb 24 zs) (hce : ∀ (j v : Nat), (vs.take (st + 1) ++ ((vs.drop st).take i ++ vs.drop (st + i + 1)))[j]? = some v → w2.cell? ⟨gb, j, none⟩ = some (u32 v)) (hk : Kept [gb] w w2) :
    (∃ n' st' vs', Dq ((w2.setCell ⟨gb, st, none⟩ (.int .u32 0)).setCell ⟨pd, 1, none⟩ (.int .i64 ((st : Int) + 1))) pd gb n' cap st' vs' ∧ vs'.drop st' = (vs.drop st).eraseIdx i) ∧ Kept [pd, gb] w ((w2.setCell ⟨gb, st, none⟩ (.int .u32 0)).setCell ⟨pd, 1, none⟩ (.int .i64 ((st : Int) + 1))) := by
  have hne := h.ne
  obtain ⟨zs, hz'⟩ := hz
  have hb : Rw w2 pd 65 [.slice (some ⟨gb, 0, none⟩) n cap, .int .i64 st] := hk.at h.blk (by simp; exact hne)
  have hl := h.len
  have h1 := h.n_le
  have hb2 : Rw (w2.setCell ⟨gb, st, none⟩ (.int .u32 0)) pd 65 [.slice (some ⟨gb, 0, none⟩) n cap, .int .i64 st] := hb.other hne _ _
  have hr2 : Rw (w2.setCell ⟨gb, st, none⟩ (.int .u32 0)) gb 24 (zs.set st (.int .u32 0)) := hz'.set _ _
  refine ⟨⟨n, st + 1, vs.take st ++ 0 :: ((vs.drop st).take i ++ vs.drop (st + i + 1)), ⟨hb2.set 1 _, ⟨_, hr2.other (fun e => hne e.symm) _ _⟩, by simp; omega, fun j v hj => ?_, by omega, h1, h.cap_le⟩, drop_shift vs st i (by omega)⟩, ((hk.mono (by simp)).setCell (by simp) _).setCell (by simp) _⟩
  rw [World.cell?_of_block (w := w2.setCell ⟨gb, st, none⟩ (.int .u32 0)) (Below.heap_setCell _ _ _ _ (fun e => hne e.symm)), cells_of hr2]
  simp only [List.getElem?_toArray]
  have e1 : (List.take st vs).length = st := by simp; omega
  have hzl : st < zs.length := by
    have := hce st vs[st] (by rw [List.getElem?_append_left (by simp; omega), List.getElem?_take, if_pos (by omega)]; exact List.getElem?_eq_getElem (by omega))
    rw [cells_of hz'] at this
    simp at this
    exact (List.getElem?_eq_some_iff.1 this).1
  by_cases c : j = st
  · subst c
    rw [List.getElem?_append_right (by omega), e1, Nat.sub_self] at hj
    simp at hj
    subst hj
    rw [List.getElem?_set_self hzl]; rfl
  · rw [List.getElem?_set_ne (fun e => c e.symm)]
    have hx : (vs.take (st + 1) ++ ((vs.drop st).take i ++ vs.drop (st + i + 1)))[j]? = some v := by
      by_cases c2 : j < st
      · rw [List.getElem?_append_left (by omega), List.getElem?_take, if_pos c2] at hj
        rw [List.getElem?_append_left (by simp; omega), List.getElem?_take, if_pos (by omega)]
        exact hj
      · rw [List.getElem?_append_right (by omega), e1] at hj
        rw [List.getElem?_append_right (by simp; omega)]
        have e2 : (List.take (st + 1) vs).length = st + 1 := by simp; omega
        obtain ⟨d, rfl⟩ : ∃ d, j = st + 1 + d := ⟨j - (st + 1), by omega⟩
        rw [show st + 1 + d - st = d + 1 by omega] at hj
        rw [e2, show st + 1 + d - (st + 1) = d by omega]
        simpa using hj
    have := hce j v hx
    rw [cells_of hz'] at this
    simpa using this

end Go.Proofs.Qxb6616938a.A
