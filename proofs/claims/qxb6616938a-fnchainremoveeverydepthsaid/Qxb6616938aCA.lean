import Derived.Test.Qxb6616938aBF
namespace Go.Proofs.Qxb6616938a.A
open Go.ChangeShapes Go.WideShapes Go.ChangeAt Go.RowKit Go.Sort
set_option linter.unusedVariables false

def I32 (k : Int) : Prop := -2147483648 ≤ k ∧ k ≤ 2147483647

/-- the deques of a chain: pd k, gb k the blocks of the one for k; L k its items -/
structure Deqs (w : World) (B U : Nat) (P : Int → Prop) (L : Int → List Nat) (pd gb : Int → Nat) : Prop where
  dq : ∀ k, P k → 2 ≤ (L k).length → ∃ n cap st vs, Dq w (pd k) (gb k) n cap st vs ∧ vs.drop st = L k
  ge : ∀ k, P k → 2 ≤ (L k).length → B ≤ pd k ∧ pd k < U ∧ B ≤ gb k ∧ gb k < U
  inj : ∀ k k', P k → P k' → 2 ≤ (L k).length → 2 ≤ (L k').length → k ≠ k' → pd k ≠ pd k' ∧ gb k ≠ gb k'

/-- the map of a chain -/
def MapOf (w : World) (B U : Nat) (mv : Value) (P : Int → Prop) (L : Int → List Nat) (pd : Int → Nat) (c : Nat) : Prop :=
  (mv = .map none ∧ ∀ k, P k → (L k).length < 2) ∨
  ∃ b D, mv = .map (some b) ∧ B ≤ b ∧ b < U ∧ w.ownsMap Try.prog 21 ptrElem b c D ∧
    (∀ k, P k → 2 ≤ (L k).length → Maps.has D (.int .i32 k) = true ∧ D.atKey (.int .i32 k) .nil = .lit (.int .u64 (pd k))) ∧
    ∀ k, P k → (L k).length < 2 → Maps.has D (.int .i32 k) = false

/-- a chain, taken apart, as to the numbers in P -/
structure Op (P : Int → Prop) (w : World) (B U pc : Nat) (sup : Int) (L : Int → List Nat) (c : Nat) (xs : List Value) (D : Nat → Nat) (mv : Value) (pd gb : Int → Nat) : Prop where
  nm : NM w B pc xs D c
  h13 : xs[13]? = some (.int .i64 sup)
  h15 : xs[15]? = some mv
  map : MapOf w B U mv P L pd c
  deqs : Deqs w B U P L pd gb
  low : ∀ k, P k → D (key32 k) = (L k).getLastD 0
  us : U ≤ w.heap.size

/-- a chain that holds for each number k the depths L k -/
def Ch (w : World) (B U pc : Nat) (sup : Int) (L : Int → List Nat) (c : Nat) : Prop :=
  ∃ xs D mv pd gb, Op I32 w B U pc sup L c xs D mv pd gb

/-- of the blocks that were there, those in X alone may have turned -/
def Turn (X : Nat → Prop) (w w' : World) : Prop := ∀ j o, w.heap[j]? = some o → ¬ X j → w'.heap[j]? = some o

theorem NM.stay {X : Nat → Prop} {w w' : World} {B pc : Nat} {xs : List Value} {D : Nat → Nat} {c : Nat} (h : NM w B pc xs D c) (t : Turn X w w') (h1 : ¬ X pc) (h2 : ∀ g cs, w.heap[g]? = some (.cells cs 44 (0, 0)) → ¬ X g) : NM w' B pc xs D c :=
  ⟨t _ _ h.blk h1, h.len, h.pc_le, by
    rcases h.st with h0 | ⟨g, M, f, n, ta, r⟩
    · exact .inl h0
    · exact .inr ⟨g, M, f, n, ⟨t _ _ ta.blk h1, ta.len, ta.sl, ta.nn, t _ _ ta.row (h2 _ _ ta.row), ta.pow, ta.bnd, ta.cnt, ta.full⟩, r⟩⟩

theorem Dq.stay {X : Nat → Prop} {w w' : World} {pd gb n cap st : Nat} {vs : List Nat} (h : Dq w pd gb n cap st vs) (t : Turn X w w') (h1 : ¬ X pd) (h2 : ¬ X gb) : Dq w' pd gb n cap st vs := by
  obtain ⟨zs, hz⟩ := h.row
  have hz' := t _ _ hz h2
  refine ⟨t _ _ h.blk h1, ⟨zs, hz'⟩, h.len, fun j v hj => ?_, h.st_le, h.n_le, h.cap_le⟩
  rw [cells_of hz', ← cells_of hz]
  exact h.cells j v hj

theorem Deqs.stay {X : Nat → Prop} {P Q : Int → Prop} {w w' : World} {B U : Nat} {L : Int → List Nat} {pd gb : Int → Nat} (h : Deqs w B U P L pd gb) (t : Turn X w w') (hq : ∀ k, Q k → P k) (hx : ∀ k, Q k → 2 ≤ (L k).length → ¬ X (pd k) ∧ ¬ X (gb k)) : Deqs w' B U Q L pd gb :=
  ⟨fun k hk hl => by
    obtain ⟨n, cap, st, vs, hd, he⟩ := h.dq k (hq k hk) hl
    exact ⟨n, cap, st, vs, hd.stay t (hx k hk hl).1 (hx k hk hl).2, he⟩,
   fun k hk hl => h.ge k (hq k hk) hl,
   fun k k' hk hk' hl hl' hn => h.inj k k' (hq k hk) (hq k' hk') hl hl' hn⟩

theorem MapOf.stay {X : Nat → Prop} {P Q : Int → Prop} {w w' : World} {B U : Nat} {mv : Value} {L : Int → List Nat} {pd : Int → Nat} {c : Nat} (h : MapOf w B U mv P L pd c) (t : Turn X w w') (hq : ∀ k, Q k → P k) (hm : ∀ m es cl, w.heap[m]? = some (.map es cl) → ¬ X m) : MapOf w' B U mv Q L pd c := by
  rcases h with ⟨h0, h1⟩ | ⟨b, D, h0, h1, h2, ⟨es, cl, hb, r⟩, h4, h5⟩
  · exact .inl ⟨h0, fun k hk => h1 k (hq k hk)⟩
  · exact .inr ⟨b, D, h0, h1, h2, ⟨es, cl, t _ _ hb (hm _ _ _ hb), r⟩, fun k hk hl => h4 k (hq k hk) hl, fun k hk hl => h5 k (hq k hk) hl⟩

theorem Op.stay {X : Nat → Prop} {P Q : Int → Prop} {w w' : World} {B U pc : Nat} {sup : Int} {L : Int → List Nat} {c : Nat} {xs : List Value} {D : Nat → Nat} {mv : Value} {pd gb : Int → Nat} (h : Op P w B U pc sup L c xs D mv pd gb) (t : Turn X w w') (hs : w.heap.size ≤ w'.heap.size) (hq : ∀ k, Q k → P k) (h1 : ¬ X pc) (h2 : ∀ g cs, w.heap[g]? = some (.cells cs 44 (0, 0)) → ¬ X g) (hm : ∀ m es cl, w.heap[m]? = some (.map es cl) → ¬ X m)
    (hx : ∀ k, Q k → 2 ≤ (L k).length → ¬ X (pd k) ∧ ¬ X (gb k)) : Op Q w' B U pc sup L c xs D mv pd gb :=
  ⟨h.nm.stay t h1 h2, h.h13, h.h15, h.map.stay t hq hm, h.deqs.stay t hq hx, fun k hk => h.low k (hq k hk), Nat.le_trans h.us hs⟩

theorem Kept.turn {S : List Nat} {w w' : World} (h : Kept S w w') : Turn (fun j => j ∈ S) w w' := fun j o hj hn => h.at hj hn

/-- the type of a block -/
theorem Rw.ne {w : World} {g g' t t' : Nat} {xs ys : List Value} (h : Rw w g t xs) (h' : Rw w g' t' ys) (ht : t ≠ t') : g ≠ g' := fun e => by
  subst e
  unfold Rw at *
  rw [h] at h'
  simp at h'
  exact ht h'.2

theorem Op.kept0 {P : Int → Prop} {w w' : World} {B U pc : Nat} {sup : Int} {L : Int → List Nat} {c : Nat} {xs : List Value} {D : Nat → Nat} {mv : Value} {pd gb : Int → Nat} (h : Op P w B U pc sup L c xs D mv pd gb) (k : Kept [] w w') : Op P w' B U pc sup L c xs D mv pd gb :=
  h.stay k.turn k.size (fun _ h => h) (by simp) (by simp) (by simp) (by simp)

/-- one deque has turned: the chain but for its number -/
theorem Op.hole {w w' : World} {B U pc : Nat} {sup : Int} {L : Int → List Nat} {c : Nat} {xs : List Value} {D : Nat → Nat} {mv : Value} {pd gb : Int → Nat} (h : Op I32 w B U pc sup L c xs D mv pd gb) {k : Int} (hk : I32 k) (hl : 2 ≤ (L k).length) (t : Kept [pd k, gb k] w w') : Op (fun x => I32 x ∧ x ≠ k) w' B U pc sup L c xs D mv pd gb := by
  obtain ⟨n, cap, st, vs, hd, he⟩ := h.deqs.dq k hk hl
  obtain ⟨zs, hz⟩ := hd.row
  have hb := hd.blk
  have hc := h.nm.blk
  have aux : ∀ g o, w.heap[g]? = some o → (∀ ys, o ≠ .cells ys 65 (0, 0)) → (∀ ys, o ≠ .cells ys 24 (0, 0)) → ¬ (g ∈ [pd k, gb k]) := fun g o ho h1 h2 hm => by
    simp at hm
    rcases hm with e | e
    · subst e; unfold Rw at hb; rw [hb] at ho; exact h1 _ (Option.some.inj ho).symm
    · subst e; unfold Rw at hz; rw [hz] at ho; exact h2 _ (Option.some.inj ho).symm
  refine h.stay t.turn t.size (fun x hx => hx.1) (aux _ _ hc (by simp) (by simp)) (fun g cs hg => aux _ _ hg (by simp) (by simp)) (fun m es cl hm => aux _ _ hm (by simp) (by simp)) (fun x hx hxl => ?_)
  obtain ⟨n', cap', st', vs', hd', he'⟩ := h.deqs.dq x hx.1 hxl
  obtain ⟨zs', hz'⟩ := hd'.row
  obtain ⟨e1, e2⟩ := h.deqs.inj x k hx.1 hk hxl hl hx.2
  constructor
  · simp; exact ⟨e1, hd'.blk.ne hz (by decide)⟩
  · simp; exact ⟨hz'.ne hb (by decide), e2⟩

/-- what an operation on the chain keeps: what lies below B, and from U on all but slots -/
structure Kc (B U pc : Nat) (w w' : World) : Prop where
  os : w'.os = w.os
  tape : w'.tape = w.tape
  output : w'.output = w.output
  size : w.heap.size ≤ w'.heap.size
  block : ∀ j, j < w.heap.size → j ≠ pc → (j < B ∨ (U ≤ j ∧ ∀ cs, w.heap[j]? ≠ some (.cells cs 44 (0, 0)))) → w'.heap[j]? = w.heap[j]?

theorem Kc.refl (B U pc : Nat) (w : World) : Kc B U pc w w := ⟨rfl, rfl, rfl, Nat.le_refl _, fun _ _ _ _ => rfl⟩
theorem Kc.trans {B U pc : Nat} {a b c : World} (h : Kc B U pc a b) (k : Kc B U pc b c) : Kc B U pc a c :=
  ⟨k.os.trans h.os, k.tape.trans h.tape, k.output.trans h.output, Nat.le_trans h.size k.size, fun j hj hn ht => by
    have e := h.block j hj hn ht
    rw [k.block j (Nat.lt_of_lt_of_le hj h.size) hn (by rw [e]; exact ht), e]⟩
theorem Kc.of {B U pc : Nat} {w w' : World} (h : Kt B pc w w') : Kc B U pc w w' :=
  ⟨h.os, h.tape, h.output, h.size, fun j hj hn ht => h.block j hj hn (by rcases ht with h1 | h1; exact .inl h1; exact .inr h1.2)⟩
theorem Kc.kept {B U pc : Nat} {S : List Nat} {w w' : World} (h : Kept S w w') (hs : ∀ j ∈ S, j = pc ∨ (B ≤ j ∧ j < U)) : Kc B U pc w w' :=
  ⟨h.os, h.tape, h.output, h.size, fun j hj hn ht => h.block j hj (fun hm => by
    rcases hs j hm with e | e
    · exact hn e
    · rcases ht with h1 | h1 <;> omega)⟩
theorem Kc.below {B U pc : Nat} {a b : World} (h : Kc B U pc a b) (hB : B ≤ a.heap.size) (hp : B ≤ pc) : Below B a b :=
  ⟨h.os, h.tape, h.output, h.size, fun k hk => h.block k (by omega) (by omega) (.inl hk)⟩
theorem Kc.rw {B U pc : Nat} {a b : World} (h : Kc B U pc a b) {k t : Nat} {ys : List Value} (hr : Rw a k t ys) (hn : k ≠ pc) (ht : k < B ∨ (U ≤ k ∧ t ≠ 44)) : Rw b k t ys := by
  unfold Rw at *
  rw [h.block k (lt_of_block hr) hn (ht.imp id fun h1 => ⟨h1.1, fun cs e => by rw [hr] at e; simp at e; exact h1.2 e.2⟩), hr]
theorem Kept.of_turned {w w' : World} {b : Nat} (h : w.mapTurned w' b) : Kept [b] w w' := by
  have g := h.grown
  exact ⟨g.os, g.tape, g.output, g.size, fun j hj hn => g.block j hj (fun e => hn (by simp at e; simp [e]))⟩
end Go.Proofs.Qxb6616938a.A
