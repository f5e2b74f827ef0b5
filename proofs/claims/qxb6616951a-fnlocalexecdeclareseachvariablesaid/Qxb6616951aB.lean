import Derived.Test.Qxb6616951aA
namespace Go.Proofs.Qxb6616951a.A
open Go.ChangeShapes Go.WideShapes Go.ChangeAt Go.RowKit
set_option linter.unusedVariables false

/-- variables: a slot's number, and whether it is captured -/
abbrev Vs := List (Nat × Bool)

/-- the last variable that names slot j: is it captured? -/
def lastOf : Vs → Nat → Option Bool
  | [], _ => none
  | v :: r, j => match lastOf r j with
    | some c => some c
    | none => if v.1 = j then some v.2 else none

theorem lastOf_snoc (vs : Vs) (v : Nat × Bool) (j : Nat) : lastOf (vs ++ [v]) j = if v.1 = j then some v.2 else lastOf vs j := by
  induction vs with
  | nil => simp [lastOf]
  | cons u r ih =>
    simp only [List.cons_append, lastOf, ih]
    by_cases h : v.1 = j
    · simp [h]
    · simp [h]

theorem lastOf_append (a b : Vs) (j : Nat) : lastOf (a ++ b) j = match lastOf b j with | some c => some c | none => lastOf a j := by
  induction a with
  | nil => simp [lastOf]; split <;> simp_all
  | cons u r ih =>
    simp only [List.cons_append, lastOf, ih]
    cases lastOf b j <;> simp

/-- what the slots hold behind the variables vs, from xs0; cells from block N on are new -/
def Slots (w : World) (N : Nat) (vs : Vs) (xs0 xs : List Value) : Prop :=
  xs.length = xs0.length ∧ ∀ j, j < xs0.length →
    (lastOf vs j = none → xs[j]? = xs0[j]?) ∧
    (lastOf vs j = some false → xs[j]? = some .nilIface) ∧
    (lastOf vs j = some true → ∃ c, xs[j]? = some (.iface 69 (.pointer (some ⟨c, 0, none⟩))) ∧ N ≤ c ∧ IsCell w c)

def IsStmt (w : World) (p gv : Nat) (line cost : Int) (vs : Vs) : Prop :=
  ∃ (qs : Array Value), w.heap[p]? = some (.cells #[.int .i64 line, .int .i64 cost, .slice (some ⟨gv, 0, none⟩) vs.length vs.length, .slice none 0 0] 53 (0, 0)) ∧
    w.heap[gv]? = some (.cells qs 46 (0, 0)) ∧ ∀ (i : Nat) (v : Nat × Bool), vs[i]? = some v → ∃ b : Nat, qs[i]? = some (.pointer (some ⟨b, 0, none⟩)) ∧ IsVar w b v.1 v.2

/-- blocks of other types than those named -/
def Other (w : World) (S : List Nat) (ts : List TypeId) : Prop := ∀ x ∈ S, ∀ cs t, w.heap[x]? = some (.cells cs t (0, 0)) → t ∉ ts

theorem Other.kept {w w' : World} {S : List Nat} {ts : List TypeId} (h : Other w S ts) (k : Kept S w w') {p : Nat} {cs : Array Value} {t : TypeId} (hp : w.heap[p]? = some (.cells cs t (0, 0))) (ht : t ∈ ts) : w'.heap[p]? = some (.cells cs t (0, 0)) :=
  k.at hp (fun hm => h p hm cs t hp ht)

theorem IsStmt.kept {w w' : World} {S : List Nat} {p gv : Nat} {line cost : Int} {vs : Vs} (h : IsStmt w p gv line cost vs) (k : Kept S w w') (ho : Other w S [53, 46, 48]) : IsStmt w' p gv line cost vs := by
  obtain ⟨qs, h1, h2, h3⟩ := h
  refine ⟨qs, ho.kept k h1 (by simp), ho.kept k h2 (by simp), fun i v hi => ?_⟩
  obtain ⟨b, hb1, hb2⟩ := h3 i v hi
  exact ⟨b, hb1, ho.kept k hb2 (by simp)⟩

theorem Slots.kept {w w' : World} {S : List Nat} {N : Nat} {vs : Vs} {xs0 xs : List Value} (h : Slots w N vs xs0 xs) (k : Kept S w w') (ho : Other w S [71]) : Slots w' N vs xs0 xs := by
  refine ⟨h.1, fun j hj => ⟨(h.2 j hj).1, (h.2 j hj).2.1, fun e => ?_⟩⟩
  obtain ⟨c, h1, h2, h3⟩ := (h.2 j hj).2.2 e
  exact ⟨c, h1, h2, ho.kept k h3 (by simp)⟩

/-- one variable more -/
theorem Slots.step {w w' : World} {N gs : Nat} {vs : Vs} {xs0 xs : List Value} {v : Nat × Bool} (h : Slots w N vs xs0 xs) (hr : IsRow w gs xs) (hN : N ≤ w.heap.size) (hk : Kept [gs] w w') (hc : v.2 = true → IsCell w' w.heap.size ∧ w.heap.size < w'.heap.size) :
    Slots w' N (vs ++ [v]) xs0 (xs.set v.1 (declV w v.2)) := by
  have ho : Other w [gs] [71] := by
    intro x hx cs t ht
    simp at hx; subst hx
    unfold IsRow at hr
    rw [hr] at ht
    simp at ht
    rw [← ht.2]; decide
  have h' := h.kept hk ho
  refine ⟨by simp [h.1], fun j hj => ?_⟩
  rw [lastOf_snoc]
  by_cases e : v.1 = j
  · subst e
    simp only [if_true]
    have hl : v.1 < xs.length := by rw [h.1]; exact hj
    refine ⟨by simp, fun e => ?_, fun e => ?_⟩
    · simp at e; simp [hl, declV, e]
    · simp at e
      exact ⟨w.heap.size, by simp [hl, declV, e], hN, (hc e).1⟩
  · simp only [e, if_false]
    rw [List.getElem?_set_ne e]
    exact h'.2 j hj

theorem Slots.start (w : World) (N : Nat) (xs : List Value) : Slots w N [] xs xs :=
  ⟨rfl, fun j _ => ⟨fun _ => rfl, by simp [lastOf], by simp [lastOf]⟩⟩

/-- all that exec reads and writes -/
structure Ex (w : World) (p gv ps pf gs m : Nat) (line cost n l0 : Int) (vs : Vs) (xs : List Value) : Prop where
  stmt : IsStmt w p gv line cost vs
  st : IsSt w ps n
  fr : IsFr w pf (.slice (some ⟨gs, 0, none⟩) m m) l0
  row : IsRow w gs xs
  len : xs.length = m
  lt : ∀ v ∈ vs, v.1 < m
  le : m ≤ 4096
  vle : vs.length ≤ 4096

theorem Ex.other {w : World} {p gv ps pf gs m : Nat} {line cost n l0 : Int} {vs : Vs} {xs : List Value} (h : Ex w p gv ps pf gs m line cost n l0 vs xs) (ts : List TypeId) (ht : 62 ∉ ts ∧ 66 ∉ ts ∧ 20 ∉ ts) : Other w [ps, pf, gs] ts := by
  intro x hx cs t hx'
  have h1 := h.st; have h2 := h.fr; have h3 := h.row
  unfold IsSt at h1; unfold IsFr at h2; unfold IsRow at h3
  simp at hx
  rcases hx with rfl | rfl | rfl
  · rw [h1] at hx'; simp at hx'; rw [← hx'.2]; exact ht.1
  · rw [h2] at hx'; simp at hx'; rw [← hx'.2]; exact ht.2.1
  · rw [h3] at hx'; simp at hx'; rw [← hx'.2]; exact ht.2.2

/-- what holds in a round of exec's loop: k variables are declared -/
structure Rd (w wr : World) (p gv ps pf gs m : Nat) (line cost n : Int) (vs : Vs) (xs0 : List Value) (ga k : Nat) (xs : List Value) : Prop where
  ex : Ex wr p gv ps pf gs m line cost n line vs xs
  sl : Slots wr w.heap.size (vs.take k) xs0 xs
  kp : Kept [ps, pf, gs] w wr
  vals : ∀ i, i < vs.length → wr.cell? ⟨ga, i, none⟩ = some .nilIface
  ga : 0 < vs.length → w.heap.size ≤ ga

theorem Ex.ne {w : World} {p gv ps pf gs m : Nat} {line cost n l0 : Int} {vs : Vs} {xs : List Value} (h : Ex w p gv ps pf gs m line cost n l0 vs xs) : ps ≠ pf ∧ ps ≠ gs ∧ pf ≠ gs := by
  have h1 := h.st; have h2 := h.fr; have h3 := h.row
  unfold IsSt at h1; unfold IsFr at h2; unfold IsRow at h3
  refine ⟨fun e => ?_, fun e => ?_, fun e => ?_⟩
  · rw [e, h2] at h1; simp at h1
  · rw [e, h3] at h1; simp at h1
  · rw [e, h3] at h2; simp at h2

end Go.Proofs.Qxb6616951a.A
