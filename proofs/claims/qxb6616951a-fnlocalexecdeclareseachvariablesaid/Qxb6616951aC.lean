import Derived.Test.Qxb6616951aB
namespace Go.Proofs.Qxb6616951a.A
open Go.ChangeShapes Go.WideShapes Go.ChangeAt Go.RowKit
set_option linter.unusedVariables false

theorem Kept.cell {S : List Nat} {a b : World} (h : Kept S a b) {p : Addr} {v : Value} (hc : a.cell? p = some v) (hn : p.block ∉ S) : b.cell? p = some v := by
  rw [World.cell?_of_block (w := a) (h.block p.block (World.block_lt_of_cell? _ _ hc) hn)]; exact hc

/-- behind begin -/
theorem Ex.begun {w w' : World} {p gv ps pf gs m : Nat} {line cost n l0 : Int} {vs : Vs} {xs : List Value} (h : Ex w p gv ps pf gs m line cost n l0 vs xs) (n' : Int) (hs : IsSt w' ps n') (hf : IsFr w' pf (.slice (some ⟨gs, 0, none⟩) m m) line) (k : Kept [ps, pf] w w') :
    Ex w' p gv ps pf gs m line cost n' line vs xs := by
  have hne := h.ne
  have k' : Kept [ps, pf, gs] w w' := k.mono (by simp)
  refine ⟨h.stmt.kept k' (h.other _ (by decide)), hs, hf, k.at h.row ?_, h.len, h.lt, h.le, h.vle⟩
  simp; exact ⟨fun e => hne.2.1 e.symm, fun e => hne.2.2 e.symm⟩

/-- one declaration more -/
theorem Ex.step {w w' : World} {p gv ps pf gs m : Nat} {line cost n l0 : Int} {vs : Vs} {xs xs' : List Value} (h : Ex w p gv ps pf gs m line cost n l0 vs xs) (hr : IsRow w' gs xs') (hl : xs'.length = xs.length) (k : Kept [gs] w w') :
    Ex w' p gv ps pf gs m line cost n l0 vs xs' := by
  have hne := h.ne
  have k' : Kept [ps, pf, gs] w w' := k.mono (by simp)
  refine ⟨h.stmt.kept k' (h.other _ (by decide)), k.at h.st ?_, k.at h.fr ?_, hr, by rw [hl]; exact h.len, h.lt, h.le, h.vle⟩
  · simp; exact hne.2.1
  · simp; exact hne.2.2
theorem Ex.keptNone {w w' : World} {p gv ps pf gs m : Nat} {line cost n l0 : Int} {vs : Vs} {xs : List Value} (h : Ex w p gv ps pf gs m line cost n l0 vs xs) (k : Kept [] w w') :
    Ex w' p gv ps pf gs m line cost n l0 vs xs :=
  ⟨h.stmt.kept k (by intro x hx; simp at hx), k.at h.st (by simp), k.at h.fr (by simp), k.at h.row (by simp), h.len, h.lt, h.le, h.vle⟩

theorem Rd.next {w wr w' : World} {p gv ps pf gs m : Nat} {line cost n : Int} {vs : Vs} {xs0 xs : List Value} {ga k : Nat} {v : Nat × Bool} (h : Rd w wr p gv ps pf gs m line cost n vs xs0 ga k xs) (hv : vs[k]? = some v) (hgs : gs < w.heap.size)
    (hr : IsRow w' gs (xs.set v.1 (declV wr v.2))) (hc : v.2 = true → IsCell w' wr.heap.size ∧ wr.heap.size < w'.heap.size) (k' : Kept [gs] wr w') :
    Rd w w' p gv ps pf gs m line cost n vs xs0 ga (k + 1) (xs.set v.1 (declV wr v.2)) := by
  have hkl : k < vs.length := (List.getElem?_eq_some_iff.1 hv).1
  refine ⟨h.ex.step hr (by simp) k', ?_, h.kp.trans (k'.mono (by simp)), fun i hi => ?_, h.ga⟩
  · have := h.sl.step h.ex.row h.kp.size k' hc
    rw [List.take_add_one, hv]
    exact this
  · have hg := h.ga (by omega)
    have hlt : ga < wr.heap.size := by have := World.block_lt_of_cell? _ _ (h.vals i hi); exact this
    have := k'.block ga hlt (by simp; omega)
    rw [World.cell?_of_block (w := wr) (by exact this)]
    exact h.vals i hi

theorem rd_start {w w1 w2 : World} {p gv ps pf gs m : Nat} {line cost n : Int} {vs : Vs} {xs0 : List Value} (h : Ex w1 p gv ps pf gs m line cost n line vs xs0) (k1 : Kept [ps, pf] w w1) (k2 : Kept [] w1.drew w2)
    (hv : ∀ i, i < vs.length → w2.cell? ⟨w1.heap.size, i, none⟩ = some .nilIface) : Rd w w2 p gv ps pf gs m line cost n vs xs0 w1.heap.size 0 xs0 := by
  have k2' : Kept [] w1 w2 := (Kept.refl _ w1).drew.trans k2
  exact ⟨h.keptNone k2', Slots.start _ _ _, (k1.mono (by simp)).trans (k2'.mono (by simp)), hv, fun _ => k1.size⟩

set_option maxRecDepth 100000 in
set_option maxHeartbeats 1000000 in
theorem exec_any (p gv ps pf gs m : Nat) (line cost n l0 : Int) (vs : Vs) (xs0 : List Value) (w : World) (hx : Ex w p gv ps pf gs m line cost n l0 vs xs0) :
    Calls Try.prog 27 #[.pointer (some ⟨p, 0, none⟩), .pointer (some ⟨ps, 0, none⟩), .pointer (some ⟨pf, 0, none⟩)] w fun e w' => e = .returned (.int .i64 0) ∧
      ∃ xs, Ex w' p gv ps pf gs m line cost (wrap64 (n + cost)) line vs xs ∧ Slots w' w.heap.size vs xs0 xs ∧ Kept [ps, pf, gs] w w' := by
  have HX : Hid (Ex w p gv ps pf gs m line cost n l0 vs xs0) := hx
  have hgs : gs < w.heap.size := lt_of_block hx.row
  have hvl := hx.vle
  obtain ⟨qs, s1, s2, s3⟩ := hx.stmt
  have c0 : w.cell? ⟨p, 0, none⟩ = some (.int .i64 line) := cells_of s1 0
  have c1 : w.cell? ⟨p, 1, none⟩ = some (.int .i64 cost) := cells_of s1 1
  clear hx s1 s2 s3
  go_enter Try.func27, Try.ntmps27
  go_wp2_with fail
  refine (begin_any ps pf n cost l0 line _ w HX.out.st HX.out.fr).mono ?_
  rintro e w1 ⟨rfl, hs1, hf1, hk1⟩
  have hx1 := HX.out.begun _ hs1 hf1 hk1
  have HX1 : Hid (Ex w1 p gv ps pf gs m line cost (wrap64 (n + cost)) line vs xs0) := hx1
  have HK1 : Hid (Kept [ps, pf] w w1) := hk1
  obtain ⟨qs', s1, s2, s3⟩ := hx1.stmt
  have d2 : w1.cell? ⟨p, 2, none⟩ = some (.slice (some ⟨gv, 0, none⟩) vs.length vs.length) := cells_of s1 2
  have d3 : w1.cell? ⟨p, 3, none⟩ = some (.slice none 0 0) := cells_of s1 3
  clear hx1 hs1 hf1 hk1 c0 c1 s1 s2 s3
  obtain ⟨t, ht⟩ : ∃ t, ((vs.length : Int) == 1) = t := ⟨_, rfl⟩
  cases t
  all_goals
    have HAD : Hid (Calls Try.prog 30 #[.slice none 0 0, .int .i64 vs.length] w1.drew fun e w' => ∃ a c, e = .returned (.slice a vs.length c) ∧ (0 < vs.length → a = some ⟨w1.drew.heap.size, 0, none⟩ ∧ (∀ i, i < vs.length → w'.cell? ⟨w1.drew.heap.size, i, none⟩ = some .nilIface) ∧ w1.drew.heap.size < w'.heap.size) ∧ Kept [] w1.drew w') := adjust_any vs.length w1.drew (by omega)
    go_wp2_with fail
    go_region_held3 (fun x => x.cell? ⟨p, 2, none⟩ = some (.slice (some ⟨gv, 0, none⟩) vs.length vs.length) ∧ x.cell? ⟨p, 3, none⟩ = some (.slice none 0 0)) (go_keep)
      ((first
        | (go_at_call 31; refine (evalList_any _ _ _).mono ?_; rintro e w2 ⟨rfl, rfl⟩)
        | (go_at_call 30; refine HAD.out.mono ?_; rintro e w2 ⟨a2, c2, rfl, hva, hk2⟩; have q2 := hk2.cell (p := ⟨p, 2, none⟩) d2 (by simp); have q3 := hk2.cell (p := ⟨p, 3, none⟩) d3 (by simp))))
    have hst := rd_start HX1.out HK1.out hk2 (fun i hi => (hva (by omega)).2.1 i hi)
    have hva' : 0 < vs.length → a2 = some ⟨w1.heap.size, 0, none⟩ := fun h => (hva h).1
    have HST : Hid (Rd w w2 p gv ps pf gs m line cost (wrap64 (n + cost)) vs xs0 w1.heap.size 0 xs0) := hst
    have HVA : Hid (0 < vs.length → a2 = some ⟨w1.heap.size, 0, none⟩) := hva'
    clear hst hva' hva hk2 d2 d3 q3 HAD
    go_wp2_with fail
    go_loopw [66] (fun t wr => ∃ (k : Nat) (xs : List Value), k ≤ vs.length ∧ t = .int .i64 k ∧ Rd w wr p gv ps pf gs m line cost (wrap64 (n + cost)) vs xs0 w1.heap.size k xs) (fun t _ => vs.length - (intOf t).toNat)
    case atStart => exact ⟨0, xs0, Nat.zero_le _, rfl, HST.out⟩
    case round =>
      obtain ⟨k, xs, hk, rfl, hrd⟩ := hrel
      have HRD : Hid (Rd w wr p gv ps pf gs m line cost (wrap64 (n + cost)) vs xs0 w1.heap.size k xs) := hrd
      clear hrd HST q2
      by_cases hlt : k < vs.length
      · obtain rfl := HVA.out (by omega)
        obtain ⟨v, hv⟩ : ∃ v, vs[k]? = some v := ⟨_, List.getElem?_eq_getElem hlt⟩
        obtain ⟨qs, t1, t2, t3⟩ := HRD.out.ex.stmt
        obtain ⟨b, hb1, hb2⟩ := t3 k v hv
        have e1 : wr.cell? ⟨gv, k, none⟩ = some (.pointer (some ⟨b, 0, none⟩)) := (cells_of t2 k).trans hb1
        have e2 := HRD.out.vals k hlt
        have hkI : (k : Int) < (vs.length : Int) := by omega
        have HDC : Hid (Calls Try.prog 29 #[.pointer (some ⟨pf, 0, none⟩), .pointer (some ⟨b, 0, none⟩), .nilIface] wr fun e w' => e = .returned (.tuple #[]) ∧ IsRow w' gs (xs.set v.1 (declV wr v.2)) ∧ (v.2 = true → IsCell w' wr.heap.size ∧ wr.heap.size < w'.heap.size) ∧ Kept [gs] wr w') :=
          declare_any pf gs b v.1 m v.2 line xs wr HRD.out.ex.fr HRD.out.ex.row hb2 HRD.out.ex.len (HRD.out.ex.lt v (List.mem_of_getElem? hv)) (by have := HRD.out.ex.le; omega)
        have HV : Hid (vs[k]? = some v) := hv
        clear t1 t2 t3 hb1 hb2 hv
        go_wp2_with fail
        refine HDC.out.mono ?_
        rintro e w3 ⟨rfl, hr3, hc3, hk3⟩
        have hn := HRD.out.next HV.out hgs hr3 hc3 hk3
        have HN : Hid (Rd w w3 p gv ps pf gs m line cost (wrap64 (n + cost)) vs xs0 w1.heap.size (k + 1) (xs.set v.1 (declV wr v.2))) := hn
        clear hn hr3 hc3 hk3 e1 e2
        go_wp2_with fail
        go_roundw
        case rel => exact ⟨k + 1, _, by omega, by go_num, HN.out⟩
        case measure => simp [intOf]; omega
      · go_wp2_with fail
        go_ret
        have e : vs.take k = vs := List.take_of_length_le (by omega)
        have h := HRD.out
        exact ⟨rfl, xs, h.ex, by have := h.sl; rw [e] at this; exact this, h.kp⟩

end Go.Proofs.Qxb6616951a.A
