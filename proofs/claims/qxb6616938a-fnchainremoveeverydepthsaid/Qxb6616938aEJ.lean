import Derived.Test.Qxb6616938aEH
namespace Go.Proofs.Qxb6616938a.A
open Go.ChangeShapes Go.WideShapes Go.ChangeAt Go.RowKit Go.Sort
set_option linter.unusedVariables false

theorem info4 : (Try.prog.info? 4).map (fun i => (i.zero, i.size, i.bytes)) = some (some (.bool false), 1, 1) := by kernel_rfl

/-- those of ds that are not among the first t of qs -/
def Wt (ds qs : List Nat) (t : Nat) : List Nat := ds.filter (fun y => decide (y ∉ qs.take t))
theorem Wt_zero (ds qs : List Nat) : Wt ds qs 0 = ds := by
  unfold Wt; rw [List.filter_eq_self.2]; simp
theorem take_one {qs : List Nat} {t q : Nat} (h : qs[t]? = some q) : qs.take (t + 1) = qs.take t ++ [q] := by
  rw [List.take_add_one, h]; rfl
theorem Wt_succ {ds qs : List Nat} {t q : Nat} (h : qs[t]? = some q) : Wt ds qs (t + 1) = (Wt ds qs t).filter (fun y => y != q) := by
  unfold Wt
  rw [List.filter_filter, take_one h]
  apply List.filter_congr
  intro y _
  by_cases e : y = q
  · subst e; simp
  · have : (y != q) = true := by rw [bne_iff_ne]; exact e
    rw [this, Bool.true_and]
    simp [e]

/-- each of the first t of qs is in ds, and not among those before it -/
def Good (ds qs : List Nat) (t : Nat) : Prop := ∀ (j q : Nat), j < t → qs[j]? = some q → q ∈ ds ∧ q ∉ qs.take j
theorem Good.zero (ds qs : List Nat) : Good ds qs 0 := fun j q hj => by omega
theorem Good.succ {ds qs : List Nat} {t q : Nat} (h : Good ds qs t) (hq : qs[t]? = some q) (h1 : q ∈ ds) (h2 : q ∉ qs.take t) : Good ds qs (t + 1) := fun j q' hj hq' => by
  by_cases e : j = t
  · subst e; rw [hq] at hq'; obtain rfl := Option.some.inj hq'; exact ⟨h1, h2⟩
  · exact h j q' (by omega) hq'
theorem Good.mem {ds qs : List Nat} {n t q : Nat} (h : Good ds qs n) (ht : t < n) (hq : qs[t]? = some q) : q ∈ Wt ds qs t := by
  obtain ⟨h1, h2⟩ := h t q ht hq
  unfold Wt
  exact List.mem_filter.2 ⟨h1, by simpa using h2⟩

theorem Inc.wt {ds qs : List Nat} (h : Inc ds) (t : Nat) : Inc (Wt ds qs t) := h.filter _
theorem Wt_len {ds qs : List Nat} (hi : Inc ds) {n : Nat} (h : Good ds qs n) (hn : n ≤ qs.length) : ∀ t, t ≤ n → (Wt ds qs t).length + t = ds.length
  | 0, _ => by rw [Wt_zero]; rfl
  | t + 1, ht => by
    have ih := Wt_len hi h hn t (by omega)
    obtain ⟨q, hq⟩ : ∃ q, qs[t]? = some q := ⟨_, List.getElem?_eq_getElem (by omega)⟩
    have hm := h.mem (by omega) hq
    obtain ⟨i, hi'⟩ := List.getElem?_of_mem hm
    have hil := (List.getElem?_eq_some_iff.1 hi').1
    rw [Wt_succ hq, ← erase_eq (hi.wt t).1 hi', List.length_eraseIdx, if_pos hil]
    omega
theorem Wt_end {ds qs : List Nat} (hi : Inc ds) (h : Good ds qs qs.length) (hn : qs.length = ds.length) : Wt ds qs qs.length = [] :=
  List.eq_nil_of_length_eq_zero (by have := Wt_len hi h (Nat.le_refl _) qs.length (Nat.le_refl _); omega)

/-- the marks: which of ds are among the first t of qs -/
def Mk (bs : List Bool) (ds qs : List Nat) (t : Nat) : Prop := bs.length = ds.length ∧ ∀ (i y : Nat), ds[i]? = some y → bs[i]? = some (decide (y ∈ qs.take t))
theorem Mk.zero (ds qs : List Nat) : Mk (List.replicate ds.length false) ds qs 0 :=
  ⟨by simp, fun i y hy => by
    have := (List.getElem?_eq_some_iff.1 hy).1
    rw [List.getElem?_replicate, if_pos this]; simp⟩
theorem Mk.succ {bs : List Bool} {ds qs : List Nat} {t q p : Nat} (hi : Inc ds) (h : Mk bs ds qs t) (hq : qs[t]? = some q) (hp : ds[p]? = some q) : Mk (bs.set p true) ds qs (t + 1) := by
  refine ⟨by simp [h.1], fun i y hy => ?_⟩
  have hpl := (List.getElem?_eq_some_iff.1 hp).1
  rw [take_one hq]
  by_cases e : i = p
  · subst e
    rw [hp] at hy
    obtain rfl := Option.some.inj hy
    rw [List.getElem?_set_self (by rw [h.1]; exact hpl)]
    simp
  · have hne : y ≠ q := fun e' => e (hi.inj hy (by rw [e']; exact hp))
    rw [List.getElem?_set_ne (fun e' => e e'.symm), h.2 i y hy]
    simp [hne]

/-- of the first i those that are not marked -/
def Wg (ds qs : List Nat) (t i : Nat) : List Nat := (ds.take i).filter (fun y => decide (y ∉ qs.take t))
theorem Wg_skip {ds qs : List Nat} {t i y : Nat} (h : ds[i]? = some y) (hm : y ∈ qs.take t) : Wg ds qs t (i + 1) = Wg ds qs t i := by
  unfold Wg; rw [take_filter _ h]; simp [hm]
theorem Wg_put {ds qs : List Nat} {t i y : Nat} (h : ds[i]? = some y) (hm : y ∉ qs.take t) : Wg ds qs t (i + 1) = Wg ds qs t i ++ [y] := by
  unfold Wg; rw [take_filter _ h]; simp [hm]
theorem Wg_all (ds qs : List Nat) (t : Nat) : Wg ds qs t ds.length = Wt ds qs t := by
  unfold Wg Wt; rw [List.take_length]
theorem Wg_le (ds qs : List Nat) (t i : Nat) : (Wg ds qs t i).length ≤ ds.length := by
  unfold Wg
  have h1 := List.length_filter_le (fun y => decide (y ∉ qs.take t)) (ds.take i)
  have h2 : (ds.take i).length ≤ ds.length := by rw [List.length_take]; omega
  omega

theorem upd_upd {α : Type} (L : Int → α) (k : Int) (x y : α) : upd (upd L k x) k y = upd L k y := by
  funext z
  unfold upd
  split <;> rfl

theorem wrap_step (s : Int) (t : Nat) : wrap64 (wrap64 (s - t) - 1) = wrap64 (s - ((t : Int) + 1)) := by unfold wrap64; omega

/-- a cell of a block that lies above the chain is written -/
theorem Ch.above {w : World} {B U pc : Nat} {sup : Int} {L : Int → List Nat} {c : Nat} (h : Ch w B U pc sup L c) {G i : Nat} {xs : List Value} (hr : Rw w G 4 xs) (hG : U ≤ G) (v : Value) : Ch (w.setCell ⟨G, i, none⟩ v) B U pc sup L c := by
  obtain ⟨ys, D, mv, pd, gb, ho⟩ := h
  have hk : Kept [G] w (w.setCell ⟨G, i, none⟩ v) := (Kept.refl _ _).setCell (by simp) _
  have aux : ∀ j o, w.heap[j]? = some o → (∀ zs, o ≠ .cells zs 4 (0, 0)) → ¬ (j ∈ [G]) := fun j o hj h1 hm => by
    simp at hm; subst hm
    unfold Rw at hr; rw [hr] at hj
    exact h1 _ (Option.some.inj hj).symm
  refine ⟨ys, D, mv, pd, gb, ho.stay hk.turn hk.size (fun _ h => h) (aux _ _ ho.nm.blk (by simp)) (fun g cs hg => aux _ _ hg (by simp)) (fun m es cl hm => aux _ _ hm (by simp)) (fun x hx hl => ?_)⟩
  have := ho.deqs.ge x hx hl
  simp
  omega
theorem Kc.setAbove {B U pc : Nat} {w0 w : World} {G i : Nat} (v : Value) (hk : Below B w0 w) (hG : B ≤ G) : Below B w0 (w.setCell ⟨G, i, none⟩ v) :=
  hk.trans ⟨rfl, rfl, rfl, by simp [World.setCell], fun k hk => Below.heap_setCell _ _ _ _ (by show k ≠ G; omega)⟩

theorem bools_at {w : World} {G : Nat} {bs : List Bool} (h : Rw w G 4 (bs.map .bool)) {p : Nat} {b : Bool} (hb : bs[p]? = some b) : w.cell? ⟨G, p, none⟩ = some (.bool b) := by
  rw [cells_of h]; simp [hb]
theorem bools_set {w : World} {G : Nat} {bs : List Bool} (h : Rw w G 4 (bs.map .bool)) (p : Nat) (b : Bool) : Rw (w.setCell ⟨G, p, none⟩ (.bool b)) G 4 ((bs.set p b).map .bool) := by
  have := h.set p (.bool b)
  rw [List.map_set]
  exact this
theorem bools_made (w : World) (n : Nat) : Rw (w.alloc (.cells (madeCells #[.bool false] n) 4)) w.heap.size 4 ((List.replicate n false).map .bool) := by
  unfold Rw
  rw [heap_alloc_new, made_list, List.map_replicate]

/-- one removal of FnChainRemoveEveryDepth -/
theorem remove_round {wr : World} {B U pc n : Nat} {sup : Int} {L0 : Int → List Nat} {k : Int} {ds qs : List Nat} {t y m : Nat} (h : Ch wr B U pc (wrap64 (sup - (t : Int))) (upd L0 k (Wt ds qs t)) (2 * n + 2 * t)) (hk : I32 k) (hi : Inc ds) (hg : Good ds qs m) (ht : t < m) (hy : qs[t]? = some y) (hB : B ≤ wr.heap.size) (hn : n ≤ 4096) (ht4 : t ≤ 4096) (hl : ds.length ≤ 262144) :
    Calls Try.prog 12 #[.pointer (some ⟨pc, 0, none⟩), .int .i32 k, .int .u32 y] wr fun e w' => e = .returned (.tuple #[]) ∧ Ch w' B U pc (wrap64 (sup - ((t : Int) + 1))) (upd L0 k (Wt ds qs (t + 1))) (2 * n + 2 * (t + 1)) ∧ Kc B U pc wr w' := by
  have hwl : (Wt ds qs t).length ≤ ds.length := List.length_filter_le _ _
  have := zzRemove pc B U _ _ _ k y wr h hk (by rw [upd_same]; exact hi.wt t) (by rw [upd_same]; exact hg.mem ht hy) hB (by omega) (by rw [upd_same]; omega)
  rw [upd_same, upd_upd, wrap_step, ← Wt_succ hy] at this
  exact this
end Go.Proofs.Qxb6616938a.A
