import Derived.Test.Qxb6616938aEF
import Derived.OwnWalk
namespace Go.Proofs.Qxb6616938a.A
open Go.ChangeShapes Go.WideShapes Go.ChangeAt Go.RowKit Go.Sort
set_option linter.unusedVariables false

theorem inc_step {ds : List Nat} (h : IncTo ds ds.length) (i : Nat) : ∀ d (x y : Nat), ds[i]? = some x → ds[i + (d + 1)]? = some y → x < y
  | 0, x, y, hx, hy => h.2 i x y (by have := (List.getElem?_eq_some_iff.1 hy).1; omega) hx hy
  | d + 1, x, y, hx, hy => by
    have hl := (List.getElem?_eq_some_iff.1 hy).1
    obtain ⟨z, hz⟩ : ∃ z, ds[i + (d + 1)]? = some z := ⟨_, List.getElem?_eq_getElem (by omega)⟩
    have h1 := inc_step h i d x z hx hz
    have h2 := h.2 (i + (d + 1)) z y (by omega) hz hy
    omega

theorem inc_of {ds : List Nat} (h : IncTo ds ds.length) (hb : ∀ x ∈ ds, x < 4294967296) : Inc ds := by
  refine ⟨List.pairwise_iff_getElem.2 fun i j hi hj hij => ?_, fun x hx => ⟨?_, hb x hx⟩⟩
  · exact inc_step h i (j - i - 1) _ _ (List.getElem?_eq_getElem hi) (by rw [show i + (j - i - 1 + 1) = j by omega]; exact List.getElem?_eq_getElem hj)
  · obtain ⟨j, hj⟩ := List.getElem?_of_mem hx
    have := h.1 j x (List.getElem?_eq_some_iff.1 hj).1 hj
    omega

theorem Inc.inj {ds : List Nat} (h : Inc ds) {i j : Nat} {x : Nat} (hi : ds[i]? = some x) (hj : ds[j]? = some x) : i = j := by
  have hil := (List.getElem?_eq_some_iff.1 hi)
  have hjl := (List.getElem?_eq_some_iff.1 hj)
  obtain ⟨hil, ei⟩ := hil
  obtain ⟨hjl, ej⟩ := hjl
  rcases Nat.lt_trichotomy i j with h1 | h1 | h1
  · have := List.pairwise_iff_getElem.1 h.1 i j hil hjl h1; omega
  · exact h1
  · have := List.pairwise_iff_getElem.1 h.1 j i hjl hil h1; omega

theorem take_filter {ds : List Nat} {i x : Nat} (f : Nat → Bool) (hx : ds[i]? = some x) : (ds.take (i + 1)).filter f = (ds.take i).filter f ++ if f x then [x] else [] := by
  rw [List.take_add_one, hx, List.filter_append]
  cases h : f x <;> simp [h]

theorem own_sl {w : World} {base n : Nat} {v : Value} {xs : List Value} (h : w.ownsRow base 24 1 v n xs) : ∃ a g c, v = .slice a n c ∧ Sl w a g 0 xs := by
  obtain ⟨hl, ⟨rfl, rfl⟩ | ⟨g, cap, cur, rfl, hb, hg, h1, h2, h3, h4⟩⟩ := h
  · obtain rfl : xs = [] := List.eq_nil_of_length_eq_zero (by omega)
    exact ⟨none, 0, 0, rfl, ⟨by simp, by simp⟩⟩
  · refine ⟨_, g, cap, rfl, ⟨fun _ => rfl, fun j u hj => ?_⟩⟩
    rw [Nat.zero_add, cells_of hg]
    rw [← h4, List.getElem?_take] at hj
    split at hj
    · simpa using hj
    · cases hj

theorem own_stay {w w' : World} {base n : Nat} {v : Value} {xs : List Value} (h : w.ownsRow base 24 1 v n xs) (t : ∀ g cs, base ≤ g → w.heap[g]? = some (.cells cs 24 (0, 0)) → w'.heap[g]? = w.heap[g]?) : w'.ownsRow base 24 1 v n xs := by
  obtain ⟨hl, ⟨rfl, rfl⟩ | ⟨g, cap, cur, rfl, hb, hg, h1⟩⟩ := h
  · exact ⟨hl, .inl ⟨rfl, rfl⟩⟩
  · exact ⟨hl, .inr ⟨g, cap, cur, rfl, hb, (t g _ hb hg).trans hg, h1⟩⟩

theorem own_kc {w w' : World} {B U pc base n : Nat} {v : Value} {xs : List Value} (h : w.ownsRow base 24 1 v n xs) (k : Kc B U pc w w') (hU : U ≤ base) (hp : pc < base) : w'.ownsRow base 24 1 v n xs :=
  own_stay h fun g cs hb hg => k.block g (lt_of_block hg) (by omega) (.inr ⟨by omega, fun cs' e => by rw [hg] at e; simp at e⟩)

/-- a round in which x is put behind what is wanted -/
theorem want_put {w wr w1 : World} {v v' : Value} {ns : List Nat} {x : Nat} {o : Obj} (hk : Kept [] w wr) (h : wr.ownsRow w.heap.size 24 1 v ns.length (ns.map u32))
    (h1 : w1.ownsRow w.heap.size 24 1 v' (ns.length + 1) (ns.map u32 ++ [.int .u32 x])) (hg : (wr.alloc o).grownBy w1 v.ownBlock) :
    w1.ownsRow w.heap.size 24 1 v' (ns ++ [x]).length ((ns ++ [x]).map u32) ∧ Kept [] w w1 := by
  refine ⟨?_, (hk.alloc o).grown hg fun k hk' => .inr (h.lt k hk').1⟩
  rw [List.length_append, List.map_append]
  exact h1

theorem LF_others (ks : List Int) (dss : List (List Nat)) (hn : ks.length = dss.length) (k : Int) (i : Nat) (x : Int) (ds : List Nat) (hx : ks[i]? = some x) (hd : dss[i]? = some ds) (hne : x ≠ k) (hl : ∀ j, i < j → ks[j]? ≠ some x) (ns : List Nat) : upd (LF ks dss ks.length) k ns x = ds := by
  have h1 := (List.getElem?_eq_some_iff.1 hx).1
  rw [upd_ne _ _ hne, LF_last ks dss i x hx hl _ h1 (Nat.le_refl _), List.getD_eq_getElem?_getD, hd]
  rfl

theorem below_mono {B B' : Nat} {w w' : World} (h : Below B w w') (hb : B' ≤ B) : Below B' w w' := ⟨h.os, h.tape, h.output, h.size, fun k hk => h.block k (by omega)⟩

theorem Ch.sup {w : World} {B U pc : Nat} {sup : Int} {L : Int → List Nat} {c : Nat} (h : Ch w B U pc sup L c) : w.cell? ⟨pc, 13, none⟩ = some (.int .i64 sup) := by
  obtain ⟨xs, D, mv, pd, gb, ho⟩ := h
  rw [cells_of ho.nm.blk 13]
  simpa using ho.h13
theorem Ch.pc_le {w : World} {B U pc : Nat} {sup : Int} {L : Int → List Nat} {c : Nat} (h : Ch w B U pc sup L c) : B ≤ pc ∧ pc < w.heap.size := by
  obtain ⟨xs, D, mv, pd, gb, ho⟩ := h
  exact ⟨ho.nm.pc_le, Rw.lt ho.nm.blk⟩

/-- of the first i those that are not q -/
def Wq (ds : List Nat) (q i : Nat) : List Nat := (ds.take i).filter (fun y => y != q)
theorem Wq_zero (ds : List Nat) (q : Nat) : Wq ds q 0 = [] := rfl
theorem Wq_skip {ds : List Nat} {q i : Nat} (h : ds[i]? = some q) : Wq ds q (i + 1) = Wq ds q i := by
  unfold Wq; rw [take_filter _ h]; simp
theorem Wq_put {ds : List Nat} {q i y : Nat} (h : ds[i]? = some y) (hn : y ≠ q) : Wq ds q (i + 1) = Wq ds q i ++ [y] := by
  unfold Wq; rw [take_filter _ h]; simp [hn]
theorem Wq_all (ds : List Nat) (q : Nat) : Wq ds q ds.length = ds.filter (fun y => y != q) := by
  unfold Wq; rw [List.take_length]
theorem Wq_le (ds : List Nat) (q i : Nat) : (Wq ds q i).length ≤ ds.length := by
  unfold Wq
  have h1 := List.length_filter_le (fun y => y != q) (ds.take i)
  have h2 : (ds.take i).length ≤ ds.length := by rw [List.length_take]; omega
  omega
end Go.Proofs.Qxb6616938a.A
