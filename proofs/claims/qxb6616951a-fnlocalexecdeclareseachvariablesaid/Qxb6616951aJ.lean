import Derived.Test.Qxb6616951aH
namespace Go.Proofs.Qxb6616951a.A
open Go.ChangeShapes Go.WideShapes Go.ChangeAt Go.RowKit
set_option linter.unusedVariables false

/-- a State and a frame: the steps, the line, what the slots show -/
def Fr (w : World) (ps pf gs m x : Nat) (line n : Int) (d : Nat → Option Bool) : Prop :=
  IsSt w ps n ∧ IsFr w pf (.slice (some ⟨gs, 0, none⟩) m m) line ∧ ∃ xs, IsRow w gs xs ∧ Shows w xs m x d

def upd (d : Nat → Option Bool) (vs : Vs) (j : Nat) : Option Bool := match lastOf vs j with | some c => some c | none => d j

theorem upd_upd (d : Nat → Option Bool) (a b : Vs) : upd (upd d a) b = upd d (a ++ b) := by
  funext j
  unfold upd
  rw [lastOf_append]
  cases lastOf b j <;> simp

theorem Fr.kept {w w' : World} {S : List Nat} {ps pf gs m x : Nat} {line n : Int} {d : Nat → Option Bool} (h : Fr w ps pf gs m x line n d) (k : Kept S w w') (h1 : ps ∉ S) (h2 : pf ∉ S) (h3 : gs ∉ S) (ho : Other w S [71]) : Fr w' ps pf gs m x line n d := by
  obtain ⟨a, b, xs, c, e⟩ := h
  exact ⟨k.at a h1, k.at b h2, xs, k.at c h3, e.kept k ho⟩
theorem Fr.kept0 {w w' : World} {ps pf gs m x : Nat} {line n : Int} {d : Nat → Option Bool} (h : Fr w ps pf gs m x line n d) (k : Kept [] w w') : Fr w' ps pf gs m x line n d :=
  h.kept k (by simp) (by simp) (by simp) (by intro y hy; simp at hy)
theorem IsStmt.kept0 {w w' : World} {p gv : Nat} {line cost : Int} {vs : Vs} (h : IsStmt w p gv line cost vs) (k : Kept [] w w') : IsStmt w' p gv line cost vs :=
  h.kept k (by intro y hy; simp at hy)

theorem Fr.other {w : World} {ps pf gs m x : Nat} {line n : Int} {d : Nat → Option Bool} (h : Fr w ps pf gs m x line n d) (ts : List TypeId) (ht : 62 ∉ ts ∧ 66 ∉ ts ∧ 20 ∉ ts) : Other w [ps, pf, gs] ts := by
  obtain ⟨h1, h2, xs, h3, _⟩ := h
  intro y hx cs t hx'
  unfold IsSt at h1; unfold IsFr at h2; unfold IsRow at h3
  simp at hx
  rcases hx with rfl | rfl | rfl
  · rw [h1] at hx'; simp at hx'; rw [← hx'.2]; exact ht.1
  · rw [h2] at hx'; simp at hx'; rw [← hx'.2]; exact ht.2.1
  · rw [h3] at hx'; simp at hx'; rw [← hx'.2]; exact ht.2.2

theorem Fr.lt {w : World} {ps pf gs m x : Nat} {line n : Int} {d : Nat → Option Bool} (h : Fr w ps pf gs m x line n d) : ps < w.heap.size ∧ pf < w.heap.size ∧ gs < w.heap.size := by
  obtain ⟨h1, h2, xs, h3, _⟩ := h
  exact ⟨lt_of_block h1, lt_of_block h2, lt_of_block h3⟩

theorem shows_upd {w w' : World} {N m x : Nat} {vs : Vs} {xs0 xs : List Value} {d : Nat → Option Bool} {S : List Nat} (h : Slots w' N vs xs0 xs) (hs : Shows w xs0 m x d) (k : Kept S w w') (ho : Other w S [71]) : Shows w' xs m x (upd d vs) := by
  have hs' := hs.kept k ho
  refine ⟨by rw [h.1]; exact hs.1, fun j hj => ?_⟩
  obtain ⟨l1, l2, l3⟩ := h.2 j (by rw [hs.1]; exact hj)
  obtain ⟨s1, s2, s3⟩ := hs'.2 j hj
  unfold upd
  cases hl : lastOf vs j with
  | none =>
    simp only
    rw [l1 hl]
    exact ⟨s1, s2, s3⟩
  | some c =>
    simp only
    refine ⟨by simp, fun e => ?_, fun e => ?_⟩
    · injection e with e; subst e; exact l2 hl
    · injection e with e; subst e
      obtain ⟨c, h1, _, h3⟩ := l3 hl
      exact ⟨c, h1, h3⟩

theorem exec_fr (p gv ps pf gs m x : Nat) (line cost n l0 : Int) (vs : Vs) (d : Nat → Option Bool) (w : World) (hst : IsStmt w p gv line cost vs) (hf : Fr w ps pf gs m x l0 n d) (hlt : ∀ v ∈ vs, v.1 < m) (hm : m ≤ 4096) (hv : vs.length ≤ 4096) :
    Calls Try.prog 14 #[.pointer (some ⟨p, 0, none⟩), .pointer (some ⟨ps, 0, none⟩), .pointer (some ⟨pf, 0, none⟩)] w fun e w' => e = .returned (.int .i64 0) ∧
      Fr w' ps pf gs m x line (wrap64 (n + cost)) (upd d vs) ∧ IsStmt w' p gv line cost vs ∧ Kept [ps, pf, gs] w w' := by
  obtain ⟨h1, h2, xs0, h3, h4⟩ := hf
  refine (zzexec_any p gv ps pf gs m line cost n l0 vs xs0 w ⟨hst, h1, h2, h3, h4.1, hlt, hm, hv⟩).mono ?_
  rintro e w' ⟨rfl, xs, hx, hsl, hk⟩
  refine ⟨rfl, ⟨hx.st, hx.fr, xs, hx.row, shows_upd hsl h4 hk ?_⟩, hx.stmt, hk⟩
  exact (Fr.other (x := x) (d := d) ⟨h1, h2, xs0, h3, h4⟩ [71] (by decide))

theorem fr_new {w w1 w2 : World} {ps pf gs m x : Nat} (hs : w1 = w.alloc (.cells #[.int .i64 0, .int .i64 0, .int .i64 0, .int .i64 0, .bool false, .pointer none, .pointer none, .pointer none, .int .i64 0, .map none, .int .u64 0] 62)) (hp : ps = w.heap.size)
    (hf : IsFr w2 pf (.slice (some ⟨gs, 0, none⟩) m m) 0) (hr : IsRow w2 gs (List.replicate m (fv x))) (k : Kept [] w1 w2) : Fr w2 ps pf gs m x 0 0 (fun _ => none) := by
  subst hs hp
  refine ⟨k.at (heap_alloc_new w _) (by simp), hf, _, hr, by simp, fun j hj => ⟨fun _ => by simp [hj], by simp, by simp⟩⟩

theorem kinds_fr (ps pf gs m x : Nat) (line n : Int) (d : Nat → Option Bool) (w : World) (hf : Fr w ps pf gs m x line n d) (hm : m ≤ 4096) :
    Calls Try.prog 17 #[.pointer (some ⟨pf, 0, none⟩)] w fun e w' => ∃ g1 g2, e = .returned (.tuple #[.slice (some ⟨g1, 0, none⟩) m m, .slice (some ⟨g2, 0, none⟩) m m]) ∧
      Rw w' g1 3 (tab (fun j => .int .i64 (kind (d j))) m) ∧ Rw w' g2 26 (tab (fun j => .float .f64 (num (d j) x)) m) ∧ w.heap.size ≤ g1 ∧ w.heap.size ≤ g2 ∧ Kept [] w w' := by
  obtain ⟨h1, h2, xs, h3, h4⟩ := hf
  exact kinds_any pf gs m x line xs d w h2 h3 h4 hm

theorem steps_fr (ps pf gs m x : Nat) (line n : Int) (d : Nat → Option Bool) (w : World) (hf : Fr w ps pf gs m x line n d) :
    Calls Try.prog 15 #[.pointer (some ⟨ps, 0, none⟩)] w fun e w' => e = .returned (.int .i64 n) ∧ w' = w := steps_any ps n w (cells_of hf.1 2)
theorem line_fr (ps pf gs m x : Nat) (line n : Int) (d : Nat → Option Bool) (w : World) (hf : Fr w ps pf gs m x line n d) :
    Calls Try.prog 16 #[.pointer (some ⟨pf, 0, none⟩)] w fun e w' => e = .returned (.int .i64 line) ∧ w' = w := line_any pf line w (cells_of hf.2.1 4)

/-- the variables of the two slices -/
def vsOf (zs : List Int) (bs : List Bool) : Vs := (zs.map Int.toNat).zip bs
theorem vsOf_len {zs : List Int} {bs : List Bool} (h : bs.length = zs.length) : (vsOf zs bs).length = zs.length := by simp [vsOf, h]
theorem vsOf_at {zs : List Int} {bs : List Bool} {i : Nat} {v : Nat × Bool} (h : (vsOf zs bs)[i]? = some v) : ∃ z, zs[i]? = some z ∧ v.1 = z.toNat ∧ bs[i]? = some v.2 := by
  unfold vsOf at h
  rw [List.getElem?_zip_eq_some] at h
  obtain ⟨h1, h2⟩ := h
  rw [List.getElem?_map] at h1
  cases e : zs[i]? with
  | none => rw [e] at h1; simp at h1
  | some z => rw [e] at h1; simp at h1; exact ⟨z, rfl, h1.symm, h2⟩

theorem src_of {w : World} {a2 a3 : Option Addr} {g2 q2 g3 q3 : Nat} {zs : List Int} {bs : List Bool} (h1 : OwnS w 0 a2 g2 q2 (zs.map (.int .i64))) (h2 : OwnS w 0 a3 g3 q3 (bs.map .bool)) (hl : bs.length = zs.length) (hz : zs.length ≤ 4096) (hn : ∀ z ∈ zs, 0 ≤ z) :
    Src w a2 a3 g2 0 g3 0 (vsOf zs bs) := by
  have hle := vsOf_len hl
  refine ⟨fun h => h1.at_ (by simp; omega), fun h => h2.at_ (by simp; omega), fun i v hi => ?_, fun i v hi => ?_, by omega⟩
  · obtain ⟨z, e1, e2, e3⟩ := vsOf_at hi
    have h0 := hn z (List.mem_of_getElem? e1)
    have := h1.cells i (.int .i64 z) (by simp [e1])
    rw [Nat.zero_add, this, e2]
    congr 2; omega
  · obtain ⟨z, e1, e2, e3⟩ := vsOf_at hi
    rw [Nat.zero_add]
    exact h2.cells i (.bool v.2) (by simp [e3])

theorem Src.take {w : World} {a a' : Option Addr} {g off g' off' : Nat} {vs : Vs} (h : Src w a a' g off g' off' vs) (k : Nat) : Src w a a' g off g' off' (vs.take k) := by
  have hv := h.vle
  refine ⟨fun h0 => h.at1 (by simp at h0; omega), fun h0 => h.at2 (by simp at h0; omega), fun i v hi => ?_, fun i v hi => ?_, by simp; omega⟩
  · rw [List.getElem?_take] at hi; split at hi
    · exact h.c1 i v hi
    · cases hi
  · rw [List.getElem?_take] at hi; split at hi
    · exact h.c2 i v hi
    · cases hi
theorem Src.drop {w : World} {a a' a2 a2' : Option Addr} {g g' : Nat} {vs : Vs} (h : Src w a a' g 0 g' 0 vs) (k : Nat) (h1 : k < vs.length → a2 = some ⟨g, k, none⟩) (h2 : k < vs.length → a2' = some ⟨g', k, none⟩) : Src w a2 a2' g k g' k (vs.drop k) := by
  have hv := h.vle
  refine ⟨fun h0 => h1 (by simp at h0; omega), fun h0 => h2 (by simp at h0; omega), fun i v hi => ?_, fun i v hi => ?_, by simp; omega⟩
  · rw [List.getElem?_drop] at hi
    have := h.c1 _ v hi
    simpa using this
  · rw [List.getElem?_drop] at hi
    have := h.c2 _ v hi
    simpa using this

def nmd (vs : Vs) (k j : Nat) : Value := .bool (lastOf (vs.take k) j).isSome
theorem nmd_step {vs : Vs} {k m : Nat} {v : Nat × Bool} (h : vs[k]? = some v) : (tab (nmd vs k) m).set v.1 (.bool true) = tab (nmd vs (k + 1)) m := by
  rw [tab_set]
  apply tab_congr
  intro j _
  unfold nmd
  rw [List.take_add_one, h]
  show _ = Value.bool (lastOf (vs.take k ++ [v]) j).isSome
  rw [lastOf_snoc]
  by_cases e : j = v.1
  · subst e; simp
  · rw [if_neg e, if_neg (fun h => e h.symm)]

theorem Rw.kept {w w' : World} {S : List Nat} {g t : Nat} {xs : List Value} (h : Rw w g t xs) (k : Kept S w w') (hn : g ∉ S) : Rw w' g t xs := k.at h hn
theorem Rw.lt {w : World} {g t : Nat} {xs : List Value} (h : Rw w g t xs) : g < w.heap.size := lt_of_block h
theorem Rw.cell {w : World} {g t : Nat} {f : Nat → Value} {n : Nat} (h : Rw w g t (tab f n)) {j : Nat} (hj : j < n) : w.cell? ⟨g, j, none⟩ = some (f j) := by
  rw [cells_of h j]; simpa using tab_at f hj

theorem wrap_a (y : Int) : wrap64 (0 + wrap64 y) = wrap64 y := by unfold wrap64; omega
theorem wrap_b (a b : Int) : wrap64 (wrap64 (0 + a) + b) = wrap64 (a + b) := by unfold wrap64; omega

theorem sz3 : (Try.prog.info? 3).map (·.size) = some 1 := by kernel_rfl
theorem sz4 : (Try.prog.info? 4).map (·.size) = some 1 := by kernel_rfl

/-- 's[k:]' -/
theorem slice_from {T t : TypeId} (hT : Try.prog.underlying T = some (.slice t)) (hs : (Try.prog.info? t).map (·.size) = some 1) (a : Option Addr) (n q k : Nat) (hk : k ≤ n) (hq : n ≤ q) (hq' : q ≤ 9223372036854775807) :
    ∃ a2, (∀ w, (Instr.slice T (.slice a n q) (some (.int .i64 k)) none none).run Try.prog w = .ok (.slice a2 (n - k) (q - k)) w) ∧ ∀ g, (k < n → a = some ⟨g, 0, none⟩) → k < n → a2 = some ⟨g, k, none⟩ := by
  have he : Try.prog.elem T = t := by simp [Program.elem, hT]
  refine ⟨if q = k then a else a.map (·.add (k * 1)), fun w => ?_, fun g h1 h2 => ?_⟩
  · rw [run_slice_l (P := Try.prog) (w := w) T a n q (by rw [he]; exact hT) .i64 k (by omega) (by omega), he]
    obtain ⟨i, hi, hz⟩ := Option.map_eq_some_iff.1 hs
    simp [sizeOf, typeInfo, hi, hz, sliced]
  · have hne : q ≠ k := by omega
    rw [if_neg hne, h1 h2, Nat.mul_one]
    show some ((⟨g, 0, none⟩ : Addr).add k) = _
    rw [add_plain, Nat.zero_add]

end Go.Proofs.Qxb6616951a.A
