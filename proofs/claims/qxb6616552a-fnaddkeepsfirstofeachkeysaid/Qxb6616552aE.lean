import Derived.Test.Qxb6616552aObj
import Derived.Deep.CutRange
namespace Go.Proofs.Qxb6616552a.A
open Go.ChangeShapes Go.WideShapes Go.ChangeAt Go.RowKit Go.Maps
set_option linter.unusedVariables false

def keysOf (ms : List Fd) : List Lit := ms.map fun f => kl f.key

/-- the object at p, whole -/
def St (w : World) (B p : Nat) (ms : List Fd) : Prop := ∃ v mv, Ob w B p ms (keysOf ms) v mv ∧ (mv = .map none → ms.length ≤ 8)

def addM (ms : List Fd) (f : Fd) : List Fd := if hasK ms f.key then ms else ms ++ [f]

/-- what holds in add ahead of its first 'if' -/
def Pre (w wc : World) (B p : Nat) (ms : List Fd) (ks : List Lit) (v mv : Value) (f : Fd) : Prop :=
  Ob wc B p ms ks v mv ∧ wc.heap[w.heap.size]? = some (.cells #[.string f.key] 9 (0, 0)) ∧
  wc.heap[w.heap.size + 1]? = some (.cells #[.int .u8 f.kind, .string f.text] 46 (0, 0)) ∧ Below B w wc

/-- what holds behind the first 'if' of add -/
def Mid (w wc : World) (B p : Nat) (ms : List Fd) (v : Value) (f : Fd) : Prop :=
  (∃ mv, Ob wc B p ms (keysOf ms) v mv ∧ (mv = .map none → ms.length < 8)) ∧ wc.heap[w.heap.size]? = some (.cells #[.string f.key] 9 (0, 0)) ∧
  wc.heap[w.heap.size + 1]? = some (.cells #[.int .u8 f.kind, .string f.text] 46 (0, 0)) ∧ Below B w wc

theorem boxes (w : World) (f : Fd) : Below w.heap.size w ((w.alloc (.cells #[.string f.key] 9)).alloc (.cells #[.int .u8 f.kind, .string f.text] 46)) ∧
    ((w.alloc (.cells #[.string f.key] 9)).alloc (.cells #[.int .u8 f.kind, .string f.text] 46)).heap[w.heap.size]? = some (.cells #[.string f.key] 9 (0, 0)) ∧
    ((w.alloc (.cells #[.string f.key] 9)).alloc (.cells #[.int .u8 f.kind, .string f.text] 46)).heap[w.heap.size + 1]? = some (.cells #[.int .u8 f.kind, .string f.text] 46 (0, 0)) := by
  refine ⟨((Below.refl _ _).alloc (Nat.le_refl _) _).alloc (by simp) _, ?_, ?_⟩
  · rw [Below.heap_alloc _ _ _ (by simp)]; exact heap_alloc_new w _
  · have := heap_alloc_new (w.alloc (.cells #[.string f.key] 9)) (.cells #[.int .u8 f.kind, .string f.text] 46)
    simpa using this

theorem pre_start {w : World} {B p : Nat} {ms : List Fd} {ks : List Lit} {v mv : Value} (f : Fd) (h : Ob w B p ms ks v mv) (hB : B ≤ w.heap.size) :
    Pre w ((w.alloc (.cells #[.string f.key] 9)).alloc (.cells #[.int .u8 f.kind, .string f.text] 46)) B p ms ks v mv f := by
  obtain ⟨h1, h2, h3⟩ := boxes w f
  exact ⟨h.below h1, h2, h3, h1.mono hB⟩
theorem Pre.mid {w wc : World} {B p : Nat} {ms : List Fd} {v mv : Value} {f : Fd} (h : Pre w wc B p ms (keysOf ms) v mv f) (h8 : mv = .map none → ms.length < 8) : Mid w wc B p ms v f :=
  ⟨⟨mv, h.1, h8⟩, h.2⟩

theorem Ob.mems {w : World} {B p g n c : Nat} {ms : List Fd} {ks : List Lit} {mv : Value} (h : Ob w B p ms ks (.slice (some ⟨g, 0, none⟩) n c) mv) : g < w.heap.size ∧ MemsAt w g ms := by
  have h0 := h.row.lt g rfl
  refine ⟨h0.2, fun i f hi => ?_⟩
  have hil : i < ms.length := (List.getElem?_eq_some_iff.1 hi).1
  obtain ⟨a, c', g', hv, ha, hm⟩ := h.slice
  obtain ⟨ha1, ha2⟩ := ha (by omega)
  injection hv with e1 e2 e3
  rw [ha1] at e1
  injection e1 with e1
  injection e1 with e1
  subst e1
  exact hm i f hi

theorem pre_map {w wc : World} {B p : Nat} {ms : List Fd} {ks : List Lit} {v : Value} {f : Fd} (h : Pre w wc B p ms ks v (.map none) f) (hB : B ≤ w.heap.size) :
    Pre w ((wc.setCell ⟨p, 1, none⟩ (.map (some wc.heap.size))).alloc (.map #[] 0)) B p ms [] v (.map (some wc.heap.size)) f := by
  obtain ⟨ho, h1, h2, h3⟩ := h
  have hs : (wc.setCell ⟨p, 1, none⟩ (.map (some wc.heap.size))).heap.size = wc.heap.size := by simp [World.setCell]
  have hwc : B ≤ wc.heap.size := Nat.le_trans hB h3.size
  have hne : ∀ (k : Nat) (t : TypeId) (cs : Array Value), wc.heap[k]? = some (.cells cs t (0, 0)) → t ≠ 42 → k ≠ p := fun k t cs hk ht e => by
    rw [e, ho.blk] at hk; simp at hk; exact ht hk.2.symm
  have keep : ∀ (k : Nat) (t : TypeId) (cs : Array Value), wc.heap[k]? = some (.cells cs t (0, 0)) → t ≠ 42 → ((wc.setCell ⟨p, 1, none⟩ (.map (some wc.heap.size))).alloc (.map #[] 0)).heap[k]? = some (.cells cs t (0, 0)) := fun k t cs hk ht => by
    rw [Below.heap_alloc _ _ _ (by rw [hs]; exact lt_of_block hk), Below.heap_setCell _ _ _ _ (hne k t cs hk ht)]; exact hk
  refine ⟨⟨?_, ho.hp, ?_, .inr ⟨_, rfl, hwc, ?_⟩⟩, keep _ _ _ h1 (by decide), keep _ _ _ h2 (by decide), (h3.setCell ho.hp _).alloc (by rw [hs]; exact hwc) _⟩
  · rw [Below.heap_alloc _ _ _ (by rw [hs]; exact ho.lt)]
    simp only [World.setCell, Array.getElem?_modify, if_true, ho.blk]; simp
  · exact (ownsRow_setCell_other ho.row ho.not_row _).alloc _
  · have := World.ownsMap_made (H := Unit) (wc.setCell ⟨p, 1, none⟩ (.map (some wc.heap.size))) Try.prog 9 unitElem
    rw [hs] at this
    exact this

theorem Pre.alloc {w wc : World} {B p : Nat} {ms : List Fd} {ks : List Lit} {v mv : Value} {f : Fd} (h : Pre w wc B p ms ks v mv f) (hB : B ≤ w.heap.size) (o : Obj) : Pre w (wc.alloc o) B p ms ks v mv f := by
  obtain ⟨ho, h1, h2, h3⟩ := h
  have hb : Below wc.heap.size wc (wc.alloc o) := (Below.refl _ _).alloc (Nat.le_refl _) _
  exact ⟨ho.below hb, (hb.block _ (lt_of_block h1)).trans h1, (hb.block _ (lt_of_block h2)).trans h2, h3.alloc (Nat.le_trans hB h3.size) _⟩
theorem Pre.below {w wc w1 : World} {B p : Nat} {ms : List Fd} {ks : List Lit} {v mv : Value} {f : Fd} (h : Pre w wc B p ms ks v mv f) (hb : Below wc.heap.size wc w1) : Pre w w1 B p ms ks v mv f := by
  obtain ⟨ho, h1, h2, h3⟩ := h
  refine ⟨ho.below hb, (hb.block _ (lt_of_block h1)).trans h1, (hb.block _ (lt_of_block h2)).trans h2, h3.trans (hb.mono ?_)⟩
  have := ho.lt
  have := ho.hp
  omega
theorem Pre.drew {w wc : World} {B p : Nat} {ms : List Fd} {ks : List Lit} {v mv : Value} {f : Fd} (h : Pre w wc B p ms ks v mv f) : Pre w wc.drew B p ms ks v mv f := by
  obtain ⟨ho, h1, h2, h3⟩ := h
  exact ⟨⟨ho.blk, ho.hp, ho.row, ho.map⟩, h1, h2, h3.drew⟩

/-- the store of one key more into the map -/
theorem Pre.store {w wc : World} {B p b : Nat} {ms : List Fd} {ks : List Lit} {v : Value} {f : Fd} (h : Pre w wc B p ms ks v (.map (some b)) f) (hl : ks.length ≤ 5000) (k : ByteArray) (hk : k.size ≤ maxLen) :
    ∃ w1, (Instr.mapUpdate 40 (.map (some b)) (.string k) (.agg #[])).run Try.prog wc = .ok () w1 ∧ wc.grownBy w1 (some b) ∧ Pre w w1 B p ms (ks ++ [kl k]) v (.map (some b)) f := by
  obtain ⟨ho, h1, h2, h3⟩ := h
  obtain ⟨b', e, hB, hm⟩ : ∃ b', Value.map (some b) = .map (some b') ∧ B ≤ b' ∧ wc.ownsMap Try.prog 9 (unitElem (H := Unit)) b' ks.length (mapD ks) := by
    rcases ho.map with h | h
    · cases h
    · exact h
  injection e with e
  injection e with e
  subst e
  obtain ⟨w1, hr, hm1, ht⟩ := hm.store law9 Try.underlying40 (by unfold maxLen; omega) (WideMaps.keyOf_string_mk Try.underlying9 hk) unitElem_mk
  have hg := ht.grown
  have hne : ∀ (k : Nat) (t : TypeId) (cs : Array Value), wc.heap[k]? = some (.cells cs t (0, 0)) → some k ≠ some b := fun k t cs hk e => by
    obtain ⟨es, cl, hbm, _⟩ := hm
    injection e with e
    rw [e, hbm] at hk; simp at hk
  refine ⟨w1, hr, hg, ho.mapped hm1 hg hB, (hg.block _ (lt_of_block h1) (hne _ _ _ h1)).trans h1, (hg.block _ (lt_of_block h2) (hne _ _ _ h2)).trans h2, ?_⟩
  exact h3.trans ⟨hg.os, hg.tape, hg.output, hg.size, fun k hk => by
    rcases Nat.lt_or_ge k wc.heap.size with hlt | hge
    · exact hg.block k hlt (by simp; omega)
    · have := hm.lt; omega⟩

theorem Pre.map_lt {w wc : World} {B p b : Nat} {ms : List Fd} {ks : List Lit} {v : Value} {f : Fd} (h : Pre w wc B p ms ks v (.map (some b)) f) : b < wc.heap.size := by
  rcases h.1.map with h | ⟨b', e, _, hm⟩
  · cases h
  · injection e with e
    injection e with e
    subst e
    exact hm.lt

theorem keysOf_take {ms : List Fd} {k : Nat} {f : Fd} (h : ms[k]? = some f) : keysOf (ms.take (k + 1)) = keysOf (ms.take k) ++ [kl f.key] := by
  unfold keysOf
  rw [List.take_add_one, h]
  simp

/-- what holds ahead of the append -/
def Fin (w wc : World) (B p : Nat) (ms : List Fd) (v : Value) (f : Fd) : Prop :=
  hasK ms f.key = false ∧ ∃ mv ks, Pre w wc B p ms ks v mv f ∧ (mv = .map none → ms.length < 8) ∧ (ks = keysOf (ms ++ [f]) ∨ mv = .map none)

theorem kl_same (a b : ByteArray) : (kl a).sameKey (kl b) = (a.toList == b.toList) := by
  simp only [kl, Lit.sameKey, ByteArray.toList_eq]

theorem has_keys (ms : List Fd) (k : ByteArray) : Maps.has (mapD (keysOf ms)) (kl k) = hasK ms k := by
  unfold mapD
  rw [has_setOf _ _ _ (by intro x hx; simp [keysOf] at hx; obtain ⟨f, _, rfl⟩ := hx; trivial)]
  unfold keysOf hasK
  rw [List.any_map]
  congr 1
  funext f
  exact kl_same _ _

/-- the look-up in the map of the keys -/
theorem Pre.look {w wc : World} {B p b : Nat} {ms : List Fd} {v : Value} {f : Fd} (h : Pre w wc B p ms (keysOf ms) v (.map (some b)) f) (hk : f.key.size ≤ maxLen) :
    (Instr.lookup 40 (.map (some b)) (.string f.key) true).run Try.prog wc = .ok (.tuple #[.agg #[], .bool (hasK ms f.key)]) wc := by
  rcases h.1.map with h | ⟨b', e, _, hm⟩
  · cases h
  · injection e with e
    injection e with e
    subst e
    obtain ⟨v, ps, hr, hv⟩ := hm.look_ok law9 Try.underlying40 (zero50 _) unitElem_mk (WideMaps.keyOf_string_mk Try.underlying9 hk)
    obtain ⟨rfl, _⟩ := unitElem_inv hv
    rw [hr]
    have := has_keys ms f.key
    unfold kl at this
    rw [this]

theorem info48 : (Try.prog.info? 48).map (fun i => (i.zero, i.size, i.bytes)) = some (some (.agg #[.string ⟨#[]⟩, .int .u8 0, .string ⟨#[]⟩, .bool false]), 4, 48) := by kernel_rfl

theorem Pre.grown_cells {w wc w1 : World} {B p : Nat} {ms : List Fd} {ks : List Lit} {v mv : Value} {f : Fd} (h : Pre w wc B p ms ks v mv f) (hB : B ≤ w.heap.size) (o : Obj) (hg : (wc.alloc o).drew.grownBy w1 v.ownBlock) :
    w1.cell? ⟨p, 0, none⟩ = some v ∧ w1.frozen? ⟨p, 0, none⟩ = false := by
  have h' := (h.alloc hB o).drew
  have hn := h'.1.not_row
  exact ⟨(hg.cell_far ⟨p, 0, none⟩ h'.1.lt (Ne.symm hn)).trans h'.1.cells.1, (hg.frozen_far ⟨p, 0, none⟩ h'.1.lt (Ne.symm hn)).trans (h'.1.free 0)⟩

theorem fin_push {w wc w1 : World} {B p : Nat} {ms : List Fd} {ks : List Lit} {v mv v' : Value} {f : Fd} (h : Pre w wc B p ms ks v mv f) (hB : B ≤ w.heap.size) (o : Obj) (hg : (wc.alloc o).drew.grownBy w1 v.ownBlock)
    (ho : w1.ownsRow B 48 4 v' (ms.length + 1) (memCells ms ++ memC f)) (hks : ks = keysOf (ms ++ [f]) ∨ mv = .map none) (h8 : mv = .map none → ms.length < 8) (hh : hasK ms f.key = false) :
    St (w1.setCell ⟨p, 0, none⟩ v') B p (addM ms f) ∧ Below B w (w1.setCell ⟨p, 0, none⟩ v') := by
  have h' := (h.alloc hB o).drew
  have hp := h'.1.push (f := f) ho hg
  refine ⟨?_, ?_⟩
  · rw [addM, hh]
    simp only [Bool.false_eq_true, if_false]
    refine ⟨v', mv, ?_, fun e => ?_⟩
    · rcases hks with e | e
      · rw [← e]; exact hp
      · exact ⟨hp.blk, hp.hp, hp.row, .inl e⟩
    · have := h8 e
      show (ms ++ [f]).length ≤ 8
      rw [List.length_append]; simp; omega
  · refine (h'.2.2.2.grown hg ?_ ?_).setCell h.1.hp _
    · have := h'.1.lt; have := h.1.hp; omega
    · intro k hk
      exact (h'.1.row.lt k hk).1

theorem mk40 (w : World) : (Instr.makeMap 40 (some (.int .i64 16))).run Try.prog w = .ok (.map (some w.heap.size)) (w.alloc (.map #[] 0)) := by kernel_rfl

end Go.Proofs.Qxb6616552a.A
