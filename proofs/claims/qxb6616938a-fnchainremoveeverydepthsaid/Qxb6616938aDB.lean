import Derived.Test.Qxb6616938aDA
namespace Go.Proofs.Qxb6616938a.A
open Go.ChangeShapes Go.WideShapes Go.ChangeAt Go.RowKit Go.Sort
set_option linter.unusedVariables false

/-- 'c.depths[k] = depths', where the map is there -/
theorem Op.stored {w : World} {B U pc : Nat} {sup : Int} {L : Int → List Nat} {c : Nat} {xs : List Value} {D : Nat → Nat} {b : Nat} {pd gb : Int → Nat} {k : Int} (ns : List Nat) (p g : Nat) (h : Op (fun x => I32 x ∧ x ≠ k) w B U pc sup L c xs D (.map (some b)) pd gb) (hk : I32 k) (hl : 2 ≤ ns.length)
    (hlast : D (key32 k) = ns.getLastD 0) (hd : ∃ n cap st vs, Dq w p g n cap st vs ∧ vs.drop st = ns) (hp : B ≤ p ∧ p < U ∧ B ≤ g ∧ g < U) (hne : ∀ x, I32 x → x ≠ k → 2 ≤ (L x).length → p ≠ pd x ∧ g ≠ gb x) (hc : c < 1048576) :
    ∃ w2, (Instr.mapUpdate 51 (.map (some b)) (.int .i32 k) (.pointer (some ⟨p, 0, none⟩))).run Try.prog w = .ok () w2 ∧ Op I32 w2 B U pc sup (upd L k ns) (c + 1) xs D (.map (some b)) (upd pd k p) (upd gb k g) ∧ Kept [b] w w2 ∧ B ≤ b ∧ b < U := by
  rcases h.map with ⟨e, _⟩ | ⟨b', Dm, e, hb1, hb2, ho, hm1, hm2⟩
  · cases e
  obtain rfl : b = b' := by injection e with e; injection e
  obtain ⟨w2, hrun, ho2, ht⟩ := ho.store law21 Try.underlying51 (show c < maxLen by simp only [maxLen]; omega) (key_of k hk) (show ptrElem (.pointer (some ⟨p, 0, none⟩)) = some (.lit (.int .u64 p), []) from rfl)
  have hkp := Kept.of_turned ht
  have hbm : ∃ es cl, w.heap[b]? = some (.map es cl) := by obtain ⟨es, cl, e, _⟩ := ho; exact ⟨es, cl, e⟩
  obtain ⟨es, cl, hbm⟩ := hbm
  have aux : ∀ j cs t, w.heap[j]? = some (.cells cs t (0, 0)) → ¬ (j ∈ [b]) := fun j cs t hj hm => by
    simp at hm; subst hm; rw [hbm] at hj; simp at hj
  have hdq : Deqs w B U I32 (upd L k ns) (upd pd k p) (upd gb k g) := by
    refine ⟨fun x hx hxl => ?_, fun x hx hxl => ?_, fun x y hx hy hxl hyl hn => ?_⟩
    · by_cases e : x = k
      · subst e; simp only [upd_same]; exact hd
      · rw [upd_ne _ _ e] at hxl ⊢
        rw [upd_ne _ _ e, upd_ne _ _ e]
        exact h.deqs.dq x ⟨hx, e⟩ hxl
    · by_cases e : x = k
      · subst e; simp only [upd_same]; exact hp
      · rw [upd_ne _ _ e] at hxl
        rw [upd_ne _ _ e, upd_ne _ _ e]
        exact h.deqs.ge x ⟨hx, e⟩ hxl
    · by_cases e : x = k
      · subst e
        have e' : y ≠ x := fun e => hn e.symm
        rw [upd_ne _ _ e'] at hyl
        simp only [upd_same, upd_ne _ _ e']
        exact hne y hy e' hyl
      · rw [upd_ne _ _ e] at hxl
        by_cases e' : y = k
        · subst e'
          simp only [upd_same, upd_ne _ _ e]
          have := hne x hx e hxl
          exact ⟨fun h => this.1 h.symm, fun h => this.2 h.symm⟩
        · rw [upd_ne _ _ e'] at hyl
          simp only [upd_ne _ _ e, upd_ne _ _ e']
          exact h.deqs.inj x y ⟨hx, e⟩ ⟨hy, e'⟩ hxl hyl hn
  refine ⟨w2, hrun, ⟨(h.nm.stay hkp.turn (aux _ _ _ h.nm.blk) (fun g cs hg => aux _ _ _ hg)).mono (by omega), h.h13, h.h15, .inr ⟨b, _, rfl, hb1, hb2, ho2, fun x hx hxl => ?_, fun x hx hxl => ?_⟩, hdq.stay hkp.turn (fun _ h => h) (fun x hx hxl => ?_), fun x hx => ?_, Nat.le_trans h.us hkp.size⟩, hkp, hb1, hb2⟩
  · by_cases e : x = k
    · subst e
      rw [upd_same]
      exact ⟨Maps.has_put_same ho.isMap (show WideAt.IsKeyLit (.int .i32 x) from trivial) _, Maps.atKey_put_same ho.isMap (show WideAt.IsKeyLit (.int .i32 x) from trivial) _ _⟩
    · rw [upd_ne _ _ e] at hxl
      rw [Maps.has_put_other (lit_ne e), Maps.atKey_put_other (lit_ne e), upd_ne _ _ e]
      exact hm1 x ⟨hx, e⟩ hxl
  · by_cases e : x = k
    · subst e; rw [upd_same] at hxl; omega
    · rw [upd_ne _ _ e] at hxl
      rw [Maps.has_put_other (lit_ne e)]
      exact hm2 x ⟨hx, e⟩ hxl
  · obtain ⟨n, cap, st, vs, hd, _⟩ := hdq.dq x hx hxl
    obtain ⟨zs, hz⟩ := hd.row
    exact ⟨aux _ _ _ hd.blk, aux _ _ _ hz⟩
  · by_cases e : x = k
    · subst e; rw [upd_same]; exact hlast
    · rw [upd_ne _ _ e]; exact h.low x ⟨hx, e⟩

/-- 'c.depths = map[int32]*deque[uint32]{}' -/
theorem Op.makes {P : Int → Prop} {w : World} {B U pc : Nat} {sup : Int} {L : Int → List Nat} {c : Nat} {xs : List Value} {D : Nat → Nat} {pd gb : Int → Nat} (h : Op P w B U pc sup L c xs D (.map none) pd gb) (hB : B ≤ w.heap.size) (w2 : World) (hw : w2 = (w.alloc (.map #[] 0)).setCell ⟨pc, 15, none⟩ (.map (some w.heap.size))) :
    Op P w2 B w2.heap.size pc sup L c (xs.set 15 (.map (some w.heap.size))) D (.map (some w.heap.size)) pd gb ∧ Kept [pc] w w2 := by
  have hsz : w2.heap.size = w.heap.size + 1 := by subst hw; simp [World.setCell]
  have hlt := Rw.lt h.nm.blk
  have k1 : Kept [] w (w.alloc (.map #[] 0)) := (Kept.refl _ _).alloc _
  have h1 := h.kept0 k1
  have hnm := h1.nm.set 15 (.map (some w.heap.size)) (by omega)
  have hk : Kept [pc] w w2 := by subst hw; exact (k1.mono (by simp)).setCell (by simp) _
  rw [← hw] at hnm
  have hlen := h.nm.len
  have h0 : ∀ k, P k → (L k).length < 2 := by
    rcases h.map with ⟨_, h⟩ | ⟨_, _, e, _⟩
    · exact h
    · cases e
  have ho : w2.ownsMap Try.prog 21 ptrElem w.heap.size 0 (.map []) := by
    rw [hw]
    exact (World.ownsMap_made w Try.prog 21 ptrElem).setCell (by show w.heap.size ≠ pc; omega) _
  refine ⟨⟨hnm, ?_, ?_, .inr ⟨w.heap.size, _, rfl, hB, by omega, ho.mono (Nat.zero_le _), fun k hk hl => ?_, fun k hk hl => rfl⟩, ⟨fun k hk hl => ?_, fun k hk hl => ?_, fun k k' hk hk' hl hl' hn => ?_⟩, h.low, Nat.le_refl _⟩, hk⟩
  · rw [List.getElem?_set_ne (by omega)]; exact h.h13
  · exact List.getElem?_set_self (by omega)
  · have := h0 k hk; omega
  · have := h0 k hk; omega
  · have := h0 k hk; omega
  · have := h0 k hk; omega
end Go.Proofs.Qxb6616938a.A
