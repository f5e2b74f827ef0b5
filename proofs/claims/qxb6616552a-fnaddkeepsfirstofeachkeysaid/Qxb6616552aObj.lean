import Derived.Test.Qxb6616552aC
import Derived.WalkSpells
namespace Go.Proofs.Qxb6616552a.A
open Go.ChangeShapes Go.WideShapes Go.ChangeAt Go.RowKit Go.Maps
set_option linter.unusedVariables false

theorem law9 : Keyed Try.prog 9 := string_keyed Try.underlying9
theorem zero50 (w : World) : (zeroValue 50).run Try.prog w = .ok (.agg #[]) w := by kernel_rfl

def kl (k : ByteArray) : Lit := .string k.data.toList
def mapD (ks : List Lit) : DataW Unit := setOf (.agg []) ks

/-- the keys' map: nil, or a set of the keys -/
def KK (w : World) (B : Nat) (mv : Value) (ks : List Lit) : Prop :=
  mv = .map none ∨ ∃ b, mv = .map (some b) ∧ B ≤ b ∧ w.ownsMap Try.prog 9 (unitElem (H := Unit)) b ks.length (mapD ks)

/-- an object at block p: its fields ms; its map of the keys ks -/
structure Ob (w : World) (B p : Nat) (ms : List Fd) (ks : List Lit) (v mv : Value) : Prop where
  blk : w.heap[p]? = some (.cells #[v, mv, .nilIface] 42 (0, 0))
  hp : B ≤ p
  row : w.ownsRow B 48 4 v ms.length (memCells ms)
  map : KK w B mv ks

theorem memCells_snoc (ms : List Fd) (f : Fd) : memCells (ms ++ [f]) = memCells ms ++ memC f := by simp [memCells]
theorem memCells_len (ms : List Fd) : (memCells ms).length = ms.length * 4 := by
  induction ms with
  | nil => rfl
  | cons f l ih => simp only [memCells, List.flatMap_cons, List.length_append, List.length_cons] at ih ⊢; rw [ih]; simp [memC]; omega

theorem memCells_at (ms : List Fd) (i : Nat) (f : Fd) (h : ms[i]? = some f) (j : Nat) (hj : j < 4) : (memCells ms)[i * 4 + j]? = (memC f)[j]? := by
  induction ms generalizing i with
  | nil => simp at h
  | cons g l ih =>
    have e : memCells (g :: l) = memC g ++ memCells l := by simp [memCells]
    have l4 : (memC g).length = 4 := rfl
    rw [e]
    cases i with
    | zero => simp at h; subst h; rw [List.getElem?_append_left (by omega)]; congr 1; omega
    | succ i =>
      rw [List.getElem?_append_right (by omega), l4]
      have := ih i (by simpa using h)
      rw [← this]; congr 1; omega

theorem Ob.cells {w : World} {B p : Nat} {ms : List Fd} {ks : List Lit} {v mv : Value} (h : Ob w B p ms ks v mv) :
    w.cell? ⟨p, 0, none⟩ = some v ∧ w.cell? ⟨p, 1, none⟩ = some mv ∧ w.cell? ⟨p, 2, none⟩ = some .nilIface := by
  have := h.blk
  refine ⟨?_, ?_, ?_⟩ <;> simp [World.cell?, this]
theorem Ob.free {w : World} {B p : Nat} {ms : List Fd} {ks : List Lit} {v mv : Value} (h : Ob w B p ms ks v mv) (j : Nat) :
    w.frozen? ⟨p, j, none⟩ = false := by
  have := h.blk
  simp [World.frozen?, this]
theorem Ob.lt {w : World} {B p : Nat} {ms : List Fd} {ks : List Lit} {v mv : Value} (h : Ob w B p ms ks v mv) : p < w.heap.size := lt_of_block h.blk

theorem Ob.slice {w : World} {B p : Nat} {ms : List Fd} {ks : List Lit} {v mv : Value} (h : Ob w B p ms ks v mv) :
    ∃ a c g, v = .slice a ms.length c ∧ (0 < ms.length → a = some ⟨g, 0, none⟩ ∧ g < w.heap.size) ∧ MemsAt w g ms := by
  obtain ⟨hl, hr | ⟨g, cap, cur, hv, hg, hh, hc, hm, hs, ht⟩⟩ := h.row
  · refine ⟨none, 0, 0, by rw [hr.1, hr.2], fun h0 => by omega, fun i f hi => ?_⟩
    have := (List.getElem?_eq_some_iff.1 hi).1; omega
  · refine ⟨_, cap, g, hv, fun _ => ⟨rfl, lt_of_block hh⟩, fun i f hi => ?_⟩
    have hil : i < ms.length := (List.getElem?_eq_some_iff.1 hi).1
    have hrow := h.row
    rw [hv] at hrow
    have key : ∀ j, j < 4 → w.cell? ⟨g, i * 4 + j, none⟩ = (memC f)[j]? := fun j hj => by
      rw [hrow.cellAt (i * 4 + j) (by omega), memCells_at ms i f hi j hj]
    exact ⟨key 0 (by omega), key 1 (by omega), key 2 (by omega), key 3 (by omega)⟩

theorem ownsRow_below {w w' : World} {base : Nat} {e : TypeId} {size : Nat} {v : Value} {n : Nat} {xs : List Value} (h : w.ownsRow base e size v n xs) (hb : Below w.heap.size w w') : w'.ownsRow base e size v n xs := by
  obtain ⟨hl, hr | ⟨g, cap, cur, hv, hg, hh, hc⟩⟩ := h
  · exact ⟨hl, .inl hr⟩
  · exact ⟨hl, .inr ⟨g, cap, cur, hv, hg, (hb.block g (lt_of_block hh)).trans hh, hc⟩⟩
theorem ownsMap_below {w w' : World} {P : Program} {k : TypeId} {H : Type} {R : Value → Option (DataW H × List MemPlace)} {b n : Nat} {D : DataW H} (h : w.ownsMap P k R b n D) (hb : Below w.heap.size w w') : w'.ownsMap P k R b n D :=
  h.kept (row := none) ⟨hb.os, hb.tape, hb.output, hb.size, fun k hk _ => hb.block k hk⟩ (by simp)
theorem KK.below {w w' : World} {B : Nat} {mv : Value} {ks : List Lit} (h : KK w B mv ks) (hb : Below w.heap.size w w') : KK w' B mv ks := by
  rcases h with h | ⟨b, h1, h2, h3⟩
  · exact .inl h
  · exact .inr ⟨b, h1, h2, ownsMap_below h3 hb⟩
theorem Ob.below {w w' : World} {B p : Nat} {ms : List Fd} {ks : List Lit} {v mv : Value} (h : Ob w B p ms ks v mv) (hb : Below w.heap.size w w') : Ob w' B p ms ks v mv :=
  ⟨(hb.block p h.lt).trans h.blk, h.hp, ownsRow_below h.row hb, h.map.below hb⟩

theorem Ob.not_row {w : World} {B p : Nat} {ms : List Fd} {ks : List Lit} {v mv : Value} (h : Ob w B p ms ks v mv) : v.ownBlock ≠ some p := by
  obtain ⟨hl, hr | ⟨g, cap, cur, hv, hg, hh, hc⟩⟩ := h.row
  · rw [hr.1]; simp [Value.ownBlock]
  · rw [hv]; simp only [Value.ownBlock]; intro e; injection e with e; rw [e, h.blk] at hh; simp at hh

/-- what the append and the store behind it leave -/
theorem Ob.push {w w' : World} {B p : Nat} {ms : List Fd} {ks : List Lit} {v mv v' : Value} {f : Fd} (h : Ob w B p ms ks v mv) (ho : w'.ownsRow B 48 4 v' (ms.length + 1) (memCells ms ++ memC f)) (hg : w.grownBy w' v.ownBlock) :
    Ob (w'.setCell ⟨p, 0, none⟩ v') B p (ms ++ [f]) ks v' mv := by
  have hb' : w'.heap[p]? = some (.cells #[v, mv, .nilIface] 42 (0, 0)) := (hg.block p h.lt h.not_row.symm).trans h.blk
  have hne : v'.ownBlock ≠ some p := by
    obtain ⟨hl, hr | ⟨g, cap, cur, hv, hgb, hh, hc⟩⟩ := ho
    · rw [hr.1]; simp [Value.ownBlock]
    · rw [hv]; simp only [Value.ownBlock]; intro e; injection e with e; rw [e, hb'] at hh; simp at hh
  refine ⟨?_, h.hp, ?_, ?_⟩
  · simp only [World.setCell, Array.getElem?_modify, if_true, hb']; simp
  · rw [memCells_snoc, List.length_append]
    exact ownsRow_setCell_other ho hne v'
  · rcases h.map with h1 | ⟨b, h1, h2, h3⟩
    · exact .inl h1
    · refine .inr ⟨b, h1, h2, ?_⟩
      obtain ⟨es, cl, hbm, r⟩ := h3
      have hrow : v.ownBlock ≠ some b := by
        obtain ⟨hl, hr | ⟨g, cap, cur, hv, hgb, hh, hc⟩⟩ := h.row
        · rw [hr.1]; simp [Value.ownBlock]
        · rw [hv]; simp only [Value.ownBlock]; intro e; injection e with e; rw [e, hbm] at hh; simp at hh
      have hbp : b ≠ p := by intro e; rw [e, h.blk] at hbm; simp at hbm
      have h4 : w'.ownsMap Try.prog 9 (unitElem (H := Unit)) b ks.length (mapD ks) := World.ownsMap.kept ⟨es, cl, hbm, r⟩ hg hrow.symm
      exact h4.setCell hbp v'

/-- the map of the keys has one key more -/
theorem Ob.mapped {w w' : World} {B p b : Nat} {ms : List Fd} {ks : List Lit} {v : Value} {x : Lit} (h : Ob w B p ms ks v (.map (some b))) (ho : w'.ownsMap Try.prog 9 (unitElem (H := Unit)) b (ks.length + 1) ((mapD ks).put x (.agg []))) (hg : w.grownBy w' (some b)) (hB : B ≤ b) :
    Ob w' B p ms (ks ++ [x]) v (.map (some b)) := by
  have hbm : ∃ es cl, w.heap[b]? = some (.map es cl) := by
    rcases h.map with h1 | ⟨b', h1, h2, h3⟩
    · simp at h1
    · simp at h1; subst h1; obtain ⟨es, cl, hbm, r⟩ := h3; exact ⟨es, cl, hbm⟩
  obtain ⟨es, cl, hbm⟩ := hbm
  have hbp : b ≠ p := by intro e; rw [e, h.blk] at hbm; simp at hbm
  have hrow : v.ownBlock ≠ some b := by
    obtain ⟨hl, hr | ⟨g, cap, cur, hv, hgb, hh, hc⟩⟩ := h.row
    · rw [hr.1]; simp [Value.ownBlock]
    · rw [hv]; simp only [Value.ownBlock]; intro e; injection e with e; rw [e, hbm] at hh; simp at hh
  refine ⟨(hg.block p h.lt (by simp; omega)).trans h.blk, h.hp, h.row.kept hg (.inr hrow), .inr ⟨b, rfl, hB, ?_⟩⟩
  rw [List.length_append, mapD, setOf_snoc]; exact ho

end Go.Proofs.Qxb6616552a.A
