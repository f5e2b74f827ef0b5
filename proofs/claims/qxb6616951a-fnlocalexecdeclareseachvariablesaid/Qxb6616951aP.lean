import Derived.Test.Qxb6616951aM
namespace Go.Proofs.Qxb6616951a.A
open Go.ChangeShapes Go.WideShapes Go.ChangeAt Go.RowKit
set_option linter.unusedVariables false

theorem info4b : (Try.prog.info? 4).map (fun i => (i.zero, i.size, i.bytes)) = some (some (.bool false), 1, 1) := by kernel_rfl

/-- as Fr, the slots by name -/
def FrX (w : World) (ps pf gs m x : Nat) (line n : Int) (d : Nat → Option Bool) (xs : List Value) : Prop :=
  IsSt w ps n ∧ IsFr w pf (.slice (some ⟨gs, 0, none⟩) m m) line ∧ IsRow w gs xs ∧ Shows w xs m x d

theorem FrX.fr {w : World} {ps pf gs m x : Nat} {line n : Int} {d : Nat → Option Bool} {xs : List Value} (h : FrX w ps pf gs m x line n d xs) : Fr w ps pf gs m x line n d :=
  ⟨h.1, h.2.1, xs, h.2.2.1, h.2.2.2⟩
theorem FrX.kept0 {w w' : World} {ps pf gs m x : Nat} {line n : Int} {d : Nat → Option Bool} {xs : List Value} (h : FrX w ps pf gs m x line n d xs) (k : Kept [] w w') : FrX w' ps pf gs m x line n d xs :=
  ⟨k.at h.1 (by simp), k.at h.2.1 (by simp), k.at h.2.2.1 (by simp), h.2.2.2.kept k (by intro y hy; simp at hy)⟩

theorem exec_frx (p gv ps pf gs m x : Nat) (line cost n l0 : Int) (vs : Vs) (d : Nat → Option Bool) (xs0 : List Value) (w : World) (hst : IsStmt w p gv line cost vs) (hf : FrX w ps pf gs m x l0 n d xs0) (hlt : ∀ v ∈ vs, v.1 < m) (hm : m ≤ 4096) (hv : vs.length ≤ 4096) :
    Calls Try.prog 14 #[.pointer (some ⟨p, 0, none⟩), .pointer (some ⟨ps, 0, none⟩), .pointer (some ⟨pf, 0, none⟩)] w fun e w' => e = .returned (.int .i64 0) ∧
      ∃ xs, FrX w' ps pf gs m x line (wrap64 (n + cost)) (upd d vs) xs ∧ Slots w' w.heap.size vs xs0 xs ∧ IsStmt w' p gv line cost vs ∧ Kept [ps, pf, gs] w w' := by
  obtain ⟨h1, h2, h3, h4⟩ := hf
  refine (zzexec_any p gv ps pf gs m line cost n l0 vs xs0 w ⟨hst, h1, h2, h3, h4.1, hlt, hm, hv⟩).mono ?_
  rintro e w' ⟨rfl, xs, hx, hsl, hk⟩
  refine ⟨rfl, xs, ⟨hx.st, hx.fr, hx.row, shows_upd hsl h4 hk ?_⟩, hsl, hx.stmt, hk⟩
  exact (Fr.other (x := x) (d := d) ⟨h1, h2, xs0, h3, h4⟩ [71] (by decide))

theorem frx_new {w w1 w2 : World} {ps pf gs m x : Nat} (hs : w1 = w.alloc (.cells #[.int .i64 0, .int .i64 0, .int .i64 0, .int .i64 0, .bool false, .pointer none, .pointer none, .pointer none, .int .i64 0, .map none, .int .u64 0] 62)) (hp : ps = w.heap.size)
    (hf : IsFr w2 pf (.slice (some ⟨gs, 0, none⟩) m m) 0) (hr : IsRow w2 gs (List.replicate m (fv x))) (k : Kept [] w1 w2) : FrX w2 ps pf gs m x 0 0 (fun _ => none) (List.replicate m (fv x)) := by
  subst hs hp
  refine ⟨k.at (heap_alloc_new w _) (by simp), hf, hr, by simp, fun j hj => ⟨fun _ => by simp [hj], by simp, by simp⟩⟩

theorem upd_idem (d : Nat → Option Bool) (vs : Vs) : upd (upd d vs) vs = upd d vs := by
  funext j
  unfold upd
  cases lastOf vs j <;> rfl

/-- two frames: every captured slot has two cells -/
structure Two (w : World) (pf gs pq gq m : Nat) (l : Int) (vs : Vs) (xs ys : List Value) : Prop where
  f1 : IsFr w pf (.slice (some ⟨gs, 0, none⟩) m m) l
  r1 : IsRow w gs xs
  f2 : IsFr w pq (.slice (some ⟨gq, 0, none⟩) m m) l
  r2 : IsRow w gq ys
  cell : ∀ j, j < m → lastOf vs j = some true → ∃ c1 c2, xs[j]? = some (.iface 69 (.pointer (some ⟨c1, 0, none⟩))) ∧ ys[j]? = some (.iface 69 (.pointer (some ⟨c2, 0, none⟩))) ∧ c1 ≠ c2 ∧ IsCell w c1 ∧ IsCell w c2

theorem Two.kept0 {w w' : World} {pf gs pq gq m : Nat} {l : Int} {vs : Vs} {xs ys : List Value} (h : Two w pf gs pq gq m l vs xs ys) (k : Kept [] w w') : Two w' pf gs pq gq m l vs xs ys :=
  ⟨k.at h.f1 (by simp), k.at h.r1 (by simp), k.at h.f2 (by simp), k.at h.r2 (by simp), fun j hj hl => by
    obtain ⟨c1, c2, a, b, c, d, e⟩ := h.cell j hj hl
    exact ⟨c1, c2, a, b, c, k.at d (by simp), k.at e (by simp)⟩⟩

theorem Two.of {w w' : World} {ps pf gs pq gq m x : Nat} {l n : Int} {d : Nat → Option Bool} {vs : Vs} {xs ys : List Value} (hx : FrX w' ps pf gs m x l n d xs) (hf : IsFr w pq (.slice (some ⟨gq, 0, none⟩) m m) l) (hr : IsRow w gq ys)
    (hs : Shows w ys m x (upd (fun _ => none) vs)) (hsl : Slots w' w.heap.size vs ys xs) (hk : Kept [ps, pf, gs] w w') (hn : pq ∉ [ps, pf, gs] ∧ gq ∉ [ps, pf, gs]) (ho : Other w [ps, pf, gs] [71]) : Two w' pf gs pq gq m l vs xs ys := by
  refine ⟨hx.2.1, hx.2.2.1, hk.at hf hn.1, hk.at hr hn.2, fun j hj hl => ?_⟩
  obtain ⟨c1, a1, a2, a3⟩ := (hsl.2 j (by rw [hs.1]; exact hj)).2.2 hl
  obtain ⟨c2, b1, b2⟩ := (hs.2 j hj).2.2 (by simp [upd, hl])
  have hc2 : c2 < w.heap.size := lt_of_block b2
  exact ⟨c1, c2, a1, b1, by omega, a3, ho.kept hk b2 (by simp)⟩

theorem Src.below {w w' : World} {a a' : Option Addr} {g off g' off' : Nat} {vs : Vs} (h : Src w a a' g off g' off' vs) (b : Below w.heap.size w w') : Src w' a a' g off g' off' vs :=
  ⟨h.at1, h.at2, fun i v hi => by
      have e := h.c1 i v hi
      rw [b.cell (p := ⟨g, off + i, none⟩) (World.block_lt_of_cell? _ _ e)]; exact e,
    fun i v hi => by
      have e := h.c2 i v hi
      rw [b.cell (p := ⟨g', off' + i, none⟩) (World.block_lt_of_cell? _ _ e)]; exact e, h.vle⟩
theorem Rw.below {w w' : World} {g t : Nat} {xs : List Value} (h : Rw w g t xs) (b : Below w.heap.size w w') : Rw w' g t xs := by
  unfold Rw at *
  rw [b.block g (lt_of_block h)]; exact h

theorem wrap_c {y : Int} (h1 : -9223372036854775808 ≤ y) (h2 : y ≤ 9223372036854775807) : wrap64 (0 + y) = y := by unfold wrap64; omega

/-- what the last loop of law 5 reads -/
structure End5 (w : World) (gl gc q3 m : Nat) (a3 : Option Addr) (pf gs pq gq : Nat) (l : Int) (vs : Vs) (xs ys : List Value) : Prop where
  two : Two w pf gs pq gq m l vs xs ys
  row : Rw w gl 3 (tab (fun j => .int .i64 (lastIx vs j)) m)
  cap : Cap w a3 gc q3 vs

theorem End5.call {w : World} {gl gc q3 m : Nat} {a3 : Option Addr} {pf gs pq gq : Nat} {l : Int} {vs : Vs} {xs ys : List Value} (h : End5 w gl gc q3 m a3 pf gs pq gq l vs xs ys) {j : Nat} (hj : j < m) (hl : lastOf vs j = some true) :
    Calls Try.prog 22 #[.pointer (some ⟨pf, 0, none⟩), .int .i64 j, .pointer (some ⟨pq, 0, none⟩), .int .i64 j] w fun e w' => e = .returned (.bool false) ∧ w' = w := by
  obtain ⟨c1, c2, a, b, c, d, e⟩ := h.two.cell j hj hl
  exact sameCell_any pf gs pq gq m j c1 c2 l l xs ys w h.two.f1 h.two.r1 h.two.f2 h.two.r2 hj a b c d e

end Go.Proofs.Qxb6616951a.A
