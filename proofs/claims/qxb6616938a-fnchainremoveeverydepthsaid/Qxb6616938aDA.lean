import Derived.Test.Qxb6616938aCD
namespace Go.Proofs.Qxb6616938a.A
open Go.ChangeShapes Go.WideShapes Go.ChangeAt Go.RowKit Go.Sort
set_option linter.unusedVariables false

/-- a deque as keep is handed it: its items are ns -/
def DqI (w : World) (p gb : Nat) (ns : List Nat) : Prop :=
  (ns = [] ∧ ∃ a, ∃ n cap : Nat, Rw w p 65 [.slice a n cap, .int .i64 n] ∧ n ≤ cap ∧ cap ≤ 1099511627776) ∨
  ∃ n cap st vs, Dq w p gb n cap st vs ∧ vs.drop st = ns

theorem DqI.blk {w : World} {p gb : Nat} {ns : List Nat} (h : DqI w p gb ns) : ∃ xs, Rw w p 65 xs := by
  rcases h with ⟨_, a, n, cap, h, _⟩ | ⟨n, cap, st, vs, h, _⟩
  · exact ⟨_, h⟩
  · exact ⟨_, h.blk⟩

theorem DqI.items {w : World} {p gb : Nat} {ns : List Nat} (h : DqI w p gb ns) :
    Calls Try.prog 28 #[.pointer (some ⟨p, 0, none⟩)] w fun e w' => ∃ a off cap, e = .returned (.slice a ns.length cap) ∧ Sl w a gb off (ns.map u32) ∧ ∃ q, w' = w.drewN q := by
  rcases h with ⟨rfl, a, n, cap, h, h1, h2⟩ | ⟨n, cap, st, vs, h, rfl⟩
  · refine (items_any p n cap n a w (cells_of h 0) (cells_of h 1) (Nat.le_refl _) h1 (by omega)).mono ?_
    rintro e w' ⟨a2, rfl, _, hq⟩
    exact ⟨a2, 0, cap - n, by simp, ⟨by simp, by simp⟩, hq⟩
  · have hl := h.len
    refine (items_any p n cap st _ w h.c0 h.c1 h.st_le h.n_le (by have := h.cap_le; omega)).mono ?_
    rintro e w' ⟨a2, rfl, ha, hq⟩
    refine ⟨a2, st, cap - st, by simp [hl], ⟨fun hh => ha gb (fun _ => rfl) (by simp at hh; omega), fun j u hj => ?_⟩, hq⟩
    rw [List.getElem?_map, List.getElem?_drop] at hj
    obtain ⟨x, hx, rfl⟩ := Option.map_eq_some_iff.1 hj
    exact h.cells _ _ hx

def upd {α : Type} (L : Int → α) (k : Int) (ns : α) : Int → α := fun x => if x = k then ns else L x
theorem upd_same {α : Type} (L : Int → α) (k : Int) (ns : α) : upd L k ns k = ns := by simp [upd]
theorem upd_ne {α : Type} (L : Int → α) {k x : Int} (ns : α) (h : x ≠ k) : upd L k ns x = L x := by simp [upd, h]

theorem NM.set {w : World} {B pc : Nat} {xs : List Value} {D : Nat → Nat} {c : Nat} (h : NM w B pc xs D c) (i : Nat) (v : Value) (hi : 9 ≤ i) : NM (w.setCell ⟨pc, i, none⟩ v) B pc (xs.set i v) D c := by
  have hx : ∀ j, j < 9 → (xs.set i v)[j]? = xs[j]? := fun j hj => List.getElem?_set_ne (by omega)
  refine ⟨h.blk.set i v, by simp [h.len], h.pc_le, ?_⟩
  rcases h.st with ⟨n, f, h1, h2, h3, h4, h5⟩ | ⟨g, M, f, n, ht, h1, h2, h3, h4, h5⟩
  · exact .inl ⟨n, f, h1, by rw [hx 6 (by omega)]; exact h2, by rw [hx 7 (by omega)]; exact h3, fun j hj => by rw [hx j (by omega)]; exact h4 j hj, h5⟩
  · exact .inr ⟨g, M, f, n, ht.set i v (by omega) (by omega), h1, h2, h3, by rw [hx 6 (by omega)]; exact h4, fun j hj => by rw [hx j (by omega)]; exact h5 j hj⟩

theorem NM.mono {w : World} {B pc : Nat} {xs : List Value} {D : Nat → Nat} {c c' : Nat} (h : NM w B pc xs D c) (hc : c ≤ c') : NM w B pc xs D c' := by
  refine ⟨h.blk, h.len, h.pc_le, ?_⟩
  rcases h.st with ⟨n, f, h1, h2, h3, h4, h5, h6, h7, h8⟩ | ⟨g, M, f, n, ht, h1, h2, h3, h4⟩
  · exact .inl ⟨n, f, h1, h2, h3, h4, h5, h6, h7, by omega⟩
  · exact .inr ⟨g, M, f, n, ht, h1, h2, by omega, h4⟩

theorem MapOf.mono {w : World} {B U : Nat} {mv : Value} {P : Int → Prop} {L : Int → List Nat} {pd : Int → Nat} {c c' : Nat} (h : MapOf w B U mv P L pd c) (hc : c ≤ c') : MapOf w B U mv P L pd c' := by
  rcases h with h | ⟨b, D, h0, h1, h2, h3, h4⟩
  · exact .inl h
  · exact .inr ⟨b, D, h0, h1, h2, h3.mono hc, h4⟩

theorem Op.raise {P : Int → Prop} {w : World} {B U U' pc : Nat} {sup : Int} {L : Int → List Nat} {c : Nat} {xs : List Value} {D : Nat → Nat} {mv : Value} {pd gb : Int → Nat} (h : Op P w B U pc sup L c xs D mv pd gb) (hu : U ≤ U') (hs : U' ≤ w.heap.size) : Op P w B U' pc sup L c xs D mv pd gb := by
  refine ⟨h.nm, h.h13, h.h15, ?_, ⟨h.deqs.dq, fun k hk hl => ?_, h.deqs.inj⟩, h.low, hs⟩
  · rcases h.map with h | ⟨b, D, h0, h1, h2, h3, h4⟩
    · exact .inl h
    · exact .inr ⟨b, D, h0, h1, by omega, h3, h4⟩
  · have := h.deqs.ge k hk hl
    omega

/-- what a numberMap operation may turn -/
def Xt (w : World) (B pc : Nat) (j : Nat) : Prop := j = pc ∨ (B ≤ j ∧ ∃ cs, w.heap[j]? = some (.cells cs 44 (0, 0)))
theorem Kt.turn {B pc : Nat} {w w' : World} (h : Kt B pc w w') : Turn (Xt w B pc) w w' := fun j o hj hn => by
  rw [h.block j (lt_of_block hj) (fun e => hn (.inl e)) (by
    by_cases c : j < B
    · exact .inl c
    · exact .inr fun cs e => hn (.inr ⟨by omega, cs, e⟩))]
  exact hj
theorem Xt.not {w : World} {B pc j : Nat} {xs ys : List Value} {t : Nat} (hp : Rw w pc 57 xs) (h : Rw w j t ys) (h1 : t ≠ 57) (h2 : t ≠ 44) : ¬ Xt w B pc j := by
  rintro (e | ⟨_, cs, e⟩)
  · subst e; unfold Rw at *; rw [h] at hp; simp at hp; exact h1 hp.2
  · unfold Rw at h; rw [h] at e; simp at e; exact h2 e.2
theorem Xt.map {w : World} {B pc j : Nat} {xs : List Value} {es : Array MapEntry} {cl : Nat} (hp : Rw w pc 57 xs) (h : w.heap[j]? = some (.map es cl)) : ¬ Xt w B pc j := by
  rintro (e | ⟨_, cs, e⟩)
  · subst e; unfold Rw at *; rw [h] at hp; simp at hp
  · rw [h] at e; simp at e

/-- behind set: the chain but for k -/
theorem Op.sets {w w1 : World} {B U pc : Nat} {sup : Int} {L : Int → List Nat} {c : Nat} {xs ys : List Value} {D : Nat → Nat} {mv : Value} {pd gb : Int → Nat} {k : Int} {v : Nat} (h : Op (fun x => I32 x ∧ x ≠ k) w B U pc sup L c xs D mv pd gb) (hk : I32 k)
    (hnm : NM w1 B pc ys (put' D (key32 k) v) (c + 1)) (hys : ∀ i, 9 ≤ i → ys[i]? = xs[i]?) (hkt : Kt B pc w w1) : Op (fun x => I32 x ∧ x ≠ k) w1 B U pc sup L (c + 1) ys (put' D (key32 k) v) mv pd gb :=
  ⟨hnm, (hys 13 (by omega)).trans h.h13, (hys 15 (by omega)).trans h.h15, (h.map.stay hkt.turn (fun _ h => h) (fun m es cl hm => Xt.map h.nm.blk hm)).mono (by omega), h.deqs.stay hkt.turn (fun _ h => h) (fun x hx hl => by
    obtain ⟨n, cap, st, vs, hd, _⟩ := h.deqs.dq x hx hl
    obtain ⟨zs, hz⟩ := hd.row
    exact ⟨Xt.not h.nm.blk hd.blk (by decide) (by decide), Xt.not h.nm.blk hz (by decide) (by decide)⟩), fun x hx => by
    rw [put_ne _ _ (fun e => hx.2 (key32_inj hx.1 hk e))]
    exact h.low x hx, Nat.le_trans h.us hkt.size⟩

theorem lit_ne {x k : Int} (h : x ≠ k) : (Lit.int .i32 x) ≠ .int .i32 k := fun e => h (by injection e)

theorem Kc.snoc {B U pc : Nat} {S : List Nat} {w w2 w3 : World} (h : Kc B U pc w w2) (k : Kept S w2 w3) (hs : ∀ j ∈ S, j = pc ∨ (B ≤ j ∧ j < U) ∨ w.heap.size ≤ j) (hB : B ≤ w.heap.size) : Kc B U pc w w3 :=
  ⟨k.os.trans h.os, k.tape.trans h.tape, k.output.trans h.output, Nat.le_trans h.size k.size, fun j hj hn ht => by
    rw [k.block j (Nat.lt_of_lt_of_le hj h.size) (fun hm => by
      rcases hs j hm with e | e | e
      · exact hn e
      · rcases ht with h1 | h1 <;> omega
      · omega)]
    exact h.block j hj hn ht⟩

/-- keep, where less than two are left: set, then delete -/
theorem Op.gone {w w1 : World} {B U pc : Nat} {sup : Int} {L : Int → List Nat} {c : Nat} {xs ys : List Value} {D : Nat → Nat} {mv : Value} {pd gb : Int → Nat} {k : Int} (ns : List Nat) (h : Op (fun x => I32 x ∧ x ≠ k) w B U pc sup L c xs D mv pd gb) (hk : I32 k) (hl : ns.length < 2)
    (hnm : NM w1 B pc ys (put' D (key32 k) (ns.getLastD 0)) (c + 1)) (hys : ∀ i, 9 ≤ i → ys[i]? = xs[i]?) (hkt : Kt B pc w w1) (hB : B ≤ w.heap.size) (ty : TypeId) :
    ∃ w2, (Builtin.delete_ #[51, 21] ty #[mv, .int .i32 k]).run Try.prog w1 = .ok (.tuple #[]) w2 ∧ Op I32 w2 B U pc sup (upd L k ns) (c + 1) ys (put' D (key32 k) (ns.getLastD 0)) mv pd gb ∧ Kc B U pc w w2 := by
  have h1 := h.sets hk hnm hys hkt
  have hlow : ∀ x, I32 x → put' D (key32 k) (ns.getLastD 0) (key32 x) = (upd L k ns x).getLastD 0 := fun x hx => by
    by_cases e : x = k
    · subst e; rw [upd_same]; simp
    · rw [upd_ne _ _ e]; exact h1.low x ⟨hx, e⟩
  have hdq : Deqs w1 B U I32 (upd L k ns) pd gb := by
    have aux : ∀ x, I32 x → 2 ≤ (upd L k ns x).length → x ≠ k ∧ upd L k ns x = L x := fun x hx hxl => by
      by_cases e : x = k
      · subst e; rw [upd_same] at hxl; omega
      · exact ⟨e, upd_ne _ _ e⟩
    refine ⟨fun x hx hxl => ?_, fun x hx hxl => ?_, fun x y hx hy hxl hyl hn => ?_⟩
    · obtain ⟨e, e2⟩ := aux x hx hxl
      rw [e2] at hxl ⊢
      exact h1.deqs.dq x ⟨hx, e⟩ hxl
    · obtain ⟨e, e2⟩ := aux x hx hxl
      rw [e2] at hxl
      exact h1.deqs.ge x ⟨hx, e⟩ hxl
    · obtain ⟨e, e2⟩ := aux x hx hxl
      obtain ⟨e', e2'⟩ := aux y hy hyl
      rw [e2] at hxl
      rw [e2'] at hyl
      exact h1.deqs.inj x y ⟨hx, e⟩ ⟨hy, e'⟩ hxl hyl hn
  have hall : ∀ x, I32 x → (x ≠ k → (L x).length < 2) → (upd L k ns x).length < 2 := fun x hx hh => by
    by_cases e : x = k
    · subst e; rw [upd_same]; exact hl
    · rw [upd_ne _ _ e]; exact hh e
  rcases h1.map with ⟨rfl, hm⟩ | ⟨b, Dm, rfl, hb1, hb2, ho, hm1, hm2⟩
  · exact ⟨w1, Maps.drop_nil law21 Try.underlying51 (key_of k hk) ty, ⟨h1.nm, h1.h13, h1.h15, .inl ⟨rfl, fun x hx => hall x hx fun e => hm x ⟨hx, e⟩⟩, hdq, hlow, h1.us⟩, Kc.of hkt⟩
  · obtain ⟨w2, hrun, ho2, ht⟩ := ho.drop law21 Try.underlying51 (key_of k hk) ty
    have hkp := Kept.of_turned ht
    have hbm : ∃ es cl, w1.heap[b]? = some (.map es cl) := by obtain ⟨es, cl, e, _⟩ := ho; exact ⟨es, cl, e⟩
    obtain ⟨es, cl, hbm⟩ := hbm
    have aux : ∀ j cs t, w1.heap[j]? = some (.cells cs t (0, 0)) → ¬ (j ∈ [b]) := fun j cs t hj hm => by
      simp at hm; subst hm; rw [hbm] at hj; simp at hj
    refine ⟨w2, hrun, ⟨h1.nm.stay hkp.turn (aux _ _ _ h1.nm.blk) (fun g cs hg => aux _ _ _ hg), h1.h13, h1.h15, .inr ⟨b, _, rfl, hb1, hb2, ho2, fun x hx hxl => ?_, fun x hx hxl => ?_⟩, hdq.stay hkp.turn (fun _ h => h) (fun x hx hxl => ?_), hlow, Nat.le_trans h1.us hkp.size⟩, (Kc.of hkt).snoc hkp (by simp; omega) hB⟩
    · by_cases e : x = k
      · subst e; rw [upd_same] at hxl; omega
      · rw [upd_ne _ _ e] at hxl
        rw [Maps.has_del_other (lit_ne e), Maps.atKey_del_other (lit_ne e)]
        exact hm1 x ⟨hx, e⟩ hxl
    · by_cases e : x = k
      · subst e; exact Maps.has_del_same
      · rw [upd_ne _ _ e] at hxl
        rw [Maps.has_del_other (lit_ne e)]
        exact hm2 x ⟨hx, e⟩ hxl
    · obtain ⟨n, cap, st, vs, hd, _⟩ := hdq.dq x hx hxl
      obtain ⟨zs, hz⟩ := hd.row
      exact ⟨aux _ _ _ hd.blk, aux _ _ _ hz⟩
end Go.Proofs.Qxb6616938a.A
