import Derived.Test.Qxb6616951aE
namespace Go.Proofs.Qxb6616951a.A
open Go.ChangeShapes Go.WideShapes Go.ChangeAt Go.RowKit
set_option linter.unusedVariables false

theorem info3 : (Try.prog.info? 3).map (fun i => (i.zero, i.size, i.bytes)) = some (some (.int .i64 0), 1, 8) := by kernel_rfl
theorem info26 : (Try.prog.info? 26).map (fun i => (i.zero, i.size, i.bytes)) = some (some (.float .f64 0), 1, 8) := by kernel_rfl

def Shows (w : World) (xs : List Value) (n x : Nat) (d : Nat → Option Bool) : Prop :=
  xs.length = n ∧ ∀ j, j < n → (d j = none → xs[j]? = some (fv x)) ∧ (d j = some false → xs[j]? = some .nilIface) ∧
    (d j = some true → ∃ c, xs[j]? = some (.iface 69 (.pointer (some ⟨c, 0, none⟩))) ∧ IsCell w c)

theorem Shows.kept {w w' : World} {S : List Nat} {xs : List Value} {n x : Nat} {d : Nat → Option Bool} (h : Shows w xs n x d) (k : Kept S w w') (ho : Other w S [71]) : Shows w' xs n x d := by
  refine ⟨h.1, fun j hj => ⟨(h.2 j hj).1, (h.2 j hj).2.1, fun e => ?_⟩⟩
  obtain ⟨c, h1, h3⟩ := (h.2 j hj).2.2 e
  exact ⟨c, h1, ho.kept k h3 (by simp)⟩

/-- a table of n values -/
def tab (f : Nat → Value) (n : Nat) : List Value := (List.range n).map f
theorem tab_len (f : Nat → Value) (n : Nat) : (tab f n).length = n := by simp [tab]
theorem tab_at (f : Nat → Value) {n j : Nat} (h : j < n) : (tab f n)[j]? = some (f j) := by simp [tab, h]
theorem tab_congr {f g : Nat → Value} {n : Nat} (h : ∀ j, j < n → f j = g j) : tab f n = tab g n := by
  unfold tab; exact List.map_congr_left fun j hj => h j (List.mem_range.1 hj)
theorem tab_set (f : Nat → Value) (n k : Nat) (v : Value) : (tab f n).set k v = tab (fun j => if j = k then v else f j) n := by
  apply List.ext_getElem?
  intro j
  by_cases hj : j < n
  · by_cases e : j = k
    · subst e; simp [tab, hj]
    · rw [List.getElem?_set_ne (fun h => e h.symm), tab_at _ hj, tab_at _ hj, if_neg e]
  · rw [List.getElem?_eq_none (by simp [tab]; omega), List.getElem?_eq_none (by simp [tab]; omega)]
theorem tab_rep (v : Value) (n : Nat) : tab (fun _ => v) n = List.replicate n v := by
  unfold tab; simp [List.map_const']

def kind (o : Option Bool) : Int := match o with | none => 1 | some true => 2 | some false => 0
def num (o : Option Bool) (x : Nat) : Nat := match o with | none => x | _ => 0
def kTo (d : Nat → Option Bool) (k j : Nat) : Value := if j < k then .int .i64 (kind (d j)) else .int .i64 0
def nTo (d : Nat → Option Bool) (x k j : Nat) : Value := if j < k then .float .f64 (num (d j) x) else .float .f64 0

theorem kTo_step (d : Nat → Option Bool) (k n : Nat) : (tab (kTo d k) n).set k (.int .i64 (kind (d k))) = tab (kTo d (k + 1)) n := by
  rw [tab_set]
  apply tab_congr
  intro j _
  unfold kTo
  by_cases e : j = k
  · subst e; simp
  · by_cases h : j < k
    · simp [e, h, show j < k + 1 from by omega]
    · simp [e, h, show ¬ j < k + 1 from by omega]
theorem nTo_step (d : Nat → Option Bool) (x k n : Nat) : (tab (nTo d x k) n).set k (.float .f64 (num (d k) x)) = tab (nTo d x (k + 1)) n := by
  rw [tab_set]
  apply tab_congr
  intro j _
  unfold nTo
  by_cases e : j = k
  · subst e; simp
  · by_cases h : j < k
    · simp [e, h, show j < k + 1 from by omega]
    · simp [e, h, show ¬ j < k + 1 from by omega]
theorem set_same {l : List Value} {k : Nat} {v : Value} (h : l[k]? = some v) : l.set k v = l := by
  obtain ⟨hk, hv⟩ := List.getElem?_eq_some_iff.1 h
  rw [← hv]; exact List.set_getElem_self hk
theorem nTo_stay (d : Nat → Option Bool) (x k n : Nat) (h : d k ≠ none) (hk : k < n) : tab (nTo d x k) n = tab (nTo d x (k + 1)) n := by
  rw [← nTo_step, set_same]
  rw [tab_at _ hk]
  simp only [nTo, Nat.lt_irrefl, if_false]
  cases e : d k with
  | none => exact absurd e h
  | some b => simp [num]

/-- what holds in a round of ZZslotKinds' loop -/
structure Kd (w wr : World) (pf gs n x : Nat) (l : Int) (xs : List Value) (d : Nat → Option Bool) (k : Nat) : Prop where
  fr : IsFr wr pf (.slice (some ⟨gs, 0, none⟩) n n) l
  row : IsRow wr gs xs
  sh : Shows wr xs n x d
  r1 : Rw wr w.heap.size 3 (tab (kTo d k) n)
  r2 : Rw wr (w.heap.size + 1) 26 (tab (nTo d x k) n)
  kp : Kept [] w wr

theorem Kd.next {w wr : World} {pf gs n x : Nat} {l : Int} {xs : List Value} {d : Nat → Option Bool} {k : Nat} (h : Kd w wr pf gs n x l xs d k) (hk : k < n) (hgs : gs < w.heap.size) (hpf : pf < w.heap.size) (hd : d k ≠ none) :
    Kd w (wr.setCell ⟨w.heap.size, k, none⟩ (.int .i64 (kind (d k)))) pf gs n x l xs d (k + 1) := by
  have kk : Kept [w.heap.size] wr (wr.setCell ⟨w.heap.size, k, none⟩ (.int .i64 (kind (d k)))) := (Kept.refl _ _).setCell (by simp) _
  have ho : Other wr [w.heap.size] [66, 20, 71, 26] := by
    intro y hy cs t ht
    simp at hy; subst hy
    have := h.r1
    unfold Rw at this
    rw [this] at ht
    simp at ht
    rw [← ht.2]; decide
  refine ⟨ho.kept kk h.fr (by simp), ho.kept kk h.row (by simp), h.sh.kept kk (fun y hy cs t ht hm => ho y hy cs t ht (by simp at hm; simp [hm])), ?_, ?_, h.kp.setNew (Nat.le_refl _) _⟩
  · unfold Rw; rw [set_of h.r1, ← kTo_step]; simp
  · have := ho.kept kk h.r2 (by simp)
    unfold Rw; rw [← nTo_stay d x k n hd hk]; exact this

theorem Kd.nextF {w wr : World} {pf gs n x : Nat} {l : Int} {xs : List Value} {d : Nat → Option Bool} {k : Nat} (h : Kd w wr pf gs n x l xs d k) (hk : k < n) (hgs : gs < w.heap.size) (hpf : pf < w.heap.size) (hd : d k = none) :
    Kd w ((wr.setCell ⟨w.heap.size, k, none⟩ (.int .i64 1)).setCell ⟨w.heap.size + 1, k, none⟩ (.float .f64 x)) pf gs n x l xs d (k + 1) := by
  have kk : Kept [w.heap.size, w.heap.size + 1] wr ((wr.setCell ⟨w.heap.size, k, none⟩ (.int .i64 1)).setCell ⟨w.heap.size + 1, k, none⟩ (.float .f64 x)) := ((Kept.refl _ _).setCell (by simp) _).setCell (by simp) _
  have ho : Other wr [w.heap.size, w.heap.size + 1] [66, 20, 71] := by
    intro y hy cs t ht
    have h1 := h.r1
    have h2 := h.r2
    unfold Rw at h1 h2
    simp at hy
    rcases hy with rfl | rfl
    · rw [h1] at ht
      simp at ht
      rw [← ht.2]; decide
    · rw [h2] at ht
      simp at ht
      rw [← ht.2]; decide
  refine ⟨ho.kept kk h.fr (by simp), ho.kept kk h.row (by simp), h.sh.kept kk (fun y hy cs t ht hm => ho y hy cs t ht (by simp at hm; simp [hm])), ?_, ?_, (h.kp.setNew (Nat.le_refl _) _).setNew (by simp) _⟩
  · unfold Rw
    rw [Below.heap_setCell _ _ _ _ (by simp), set_of h.r1, ← kTo_step, hd]; simp [kind]
  · unfold Rw
    have : (wr.setCell ⟨w.heap.size, k, none⟩ (.int .i64 1)).heap[w.heap.size + 1]? = some (.cells (tab (nTo d x k) n).toArray 26 (0, 0)) := by
      rw [Below.heap_setCell _ _ _ _ (by simp)]; exact h.r2
    rw [set_of this, ← nTo_step, hd]; simp [num]

theorem run_store_float {P : Program} {w : World} {a : Addr} {m : Mode} (k : FloatKind) (b : Nat) : (store a (.float k b) m).run P w = stored P w a (.float k b) m := run_store P w a _ m rfl
attribute [local go_sem] run_store_float

theorem ta_ff (x : Nat) (w : World) : (Instr.typeAssert (.iface 26 (.float .f64 x)) 20 26 true).run Try.prog w = .ok (.tuple #[.float .f64 x, .bool true]) w := by kernel_rfl
theorem ta_pf (c : Nat) (w : World) : (Instr.typeAssert (.iface 69 (.pointer (some ⟨c, 0, none⟩))) 20 26 true).run Try.prog w = .ok (.tuple #[.float .f64 0, .bool false]) w := by kernel_rfl
theorem ta_pp (c : Nat) (w : World) : (Instr.typeAssert (.iface 69 (.pointer (some ⟨c, 0, none⟩))) 20 69 true).run Try.prog w = .ok (.tuple #[.pointer (some ⟨c, 0, none⟩), .bool true]) w := by kernel_rfl
theorem ta_fp (x : Nat) (w : World) : (Instr.typeAssert (.iface 26 (.float .f64 x)) 20 69 true).run Try.prog w = .ok (.tuple #[.pointer none, .bool false]) w := by kernel_rfl
theorem ta_np (w : World) : (Instr.typeAssert .nilIface 20 69 true).run Try.prog w = .ok (.tuple #[.pointer none, .bool false]) w := by kernel_rfl

set_option maxRecDepth 100000 in
set_option maxHeartbeats 1000000 in
theorem kinds_any (pf gs n x : Nat) (l : Int) (xs : List Value) (d : Nat → Option Bool) (w : World) (hf : IsFr w pf (.slice (some ⟨gs, 0, none⟩) n n) l) (hr : IsRow w gs xs) (hs : Shows w xs n x d) (hn : n ≤ 4096) :
    Calls Try.prog 17 #[.pointer (some ⟨pf, 0, none⟩)] w fun e w' => ∃ g1 g2, e = .returned (.tuple #[.slice (some ⟨g1, 0, none⟩) n n, .slice (some ⟨g2, 0, none⟩) n n]) ∧
      Rw w' g1 3 (tab (fun j => .int .i64 (kind (d j))) n) ∧ Rw w' g2 26 (tab (fun j => .float .f64 (num (d j) x)) n) ∧ w.heap.size ≤ g1 ∧ w.heap.size ≤ g2 ∧ Kept [] w w' := by
  have hmk1 := run_make_row' (P := Try.prog) 24 3 (.int .i64 0) 8 Try.underlying24 info3 rfl .i64 .i64 n (by omega) (by omega)
  have hmk2 := run_make_row' (P := Try.prog) 37 26 (.float .f64 0) 8 Try.underlying37 info26 rfl .i64 .i64 n (by omega) (by omega)
  have t1 := ta_ff
  have t2 := ta_pf
  have t3 := ta_pp
  have hpf : pf < w.heap.size := lt_of_block hf
  have hgs : gs < w.heap.size := lt_of_block hr
  have c1 : w.cell? ⟨pf, 1, none⟩ = some (.slice (some ⟨gs, 0, none⟩) n n) := cells_of hf 1
  have hst : Kd w ((w.alloc (.cells (madeCells #[.int .i64 0] n) 3)).alloc (.cells (madeCells #[.float .f64 0] n) 26)) pf gs n x l xs d 0 := by
    have kk : Kept [] w ((w.alloc (.cells (madeCells #[.int .i64 0] n) 3)).alloc (.cells (madeCells #[.float .f64 0] n) 26)) := ((Kept.refl _ _).alloc _).alloc _
    refine ⟨kk.at hf (by simp), kk.at hr (by simp), hs.kept kk (by intro y hy; simp at hy), ?_, ?_, kk⟩
    · unfold Rw
      rw [Below.heap_alloc _ _ _ (by simp), heap_alloc_new, made_list]
      congr 2
      rw [← tab_rep]; congr 1; 
    · unfold Rw
      have := heap_alloc_new (w.alloc (.cells (madeCells #[.int .i64 0] n) 3)) (.cells (madeCells #[.float .f64 0] n) 26)
      simp only [World.size_alloc] at this
      rw [this, made_list]
      congr 2
      rw [← tab_rep]; congr 1
  have HST : Hid (Kd w ((w.alloc (.cells (madeCells #[.int .i64 0] n) 3)).alloc (.cells (madeCells #[.float .f64 0] n) 26)) pf gs n x l xs d 0) := hst
  clear hst hf hr hs
  go_enter Try.func17, Try.ntmps17
  go_wp2_with fail
  go_loopw [29] (fun t wr => ∃ (k : Nat), k ≤ n ∧ t = .int .i64 k ∧ Kd w wr pf gs n x l xs d k) (fun t _ => n - (intOf t).toNat)
  case atStart => exact ⟨0, Nat.zero_le _, rfl, HST.out⟩
  case round =>
    obtain ⟨k, hk, rfl, hkd⟩ := hrel
    have HKD : Hid (Kd w wr pf gs n x l xs d k) := hkd
    clear HST
    by_cases hlt : k < n
    · have hkI : (k : Int) < (n : Int) := by omega
      have e0 : wr.cell? ⟨gs, k, none⟩ = xs[k]? := by rw [cells_of hkd.row k]; simp
      have e1 : wr.cell? ⟨w.heap.size, k, none⟩ = some (kTo d k k) := by rw [cells_of hkd.r1 k]; simpa using tab_at _ hlt
      have e2 : wr.cell? ⟨w.heap.size + 1, k, none⟩ = some (nTo d x k k) := by rw [cells_of hkd.r2 k]; simpa using tab_at _ hlt
      have f1 : wr.frozen? ⟨w.heap.size, k, none⟩ = false := free_of hkd.r1 k
      have f2 : wr.frozen? ⟨w.heap.size + 1, k, none⟩ = false := free_of hkd.r2 k
      obtain ⟨s1, s2, s3⟩ := hkd.sh.2 k hlt
      cases hd : d k with
      | none =>
        rw [s1 hd] at e0
        unfold fv at e0
        have hn := hkd.nextF hlt hgs hpf hd
        have HN : Hid (Kd w ((wr.setCell ⟨w.heap.size, k, none⟩ (.int .i64 1)).setCell ⟨w.heap.size + 1, k, none⟩ (.float .f64 x)) pf gs n x l xs d (k + 1)) := hn
        clear hn s1 s2 s3 hkd
        go_wp2_with fail
        go_roundw
        case rel => exact ⟨k + 1, by omega, by go_num, HN.out⟩
        case measure => simp [intOf]; omega
      | some b =>
        have hn := hkd.next hlt hgs hpf (by rw [hd]; simp)
        rw [hd] at hn
        cases b with
        | false =>
          rw [s2 hd] at e0
          have HN : Hid (Kd w (wr.setCell ⟨w.heap.size, k, none⟩ (.int .i64 0)) pf gs n x l xs d (k + 1)) := hn
          clear hn s1 s2 s3 hkd
          go_wp2_with fail
          go_roundw
          case rel => exact ⟨k + 1, by omega, by go_num, HN.out⟩
          case measure => simp [intOf]; omega
        | true =>
          obtain ⟨c, hc, hcl⟩ := s3 hd
          rw [hc] at e0
          have e3 : wr.cell? ⟨c, 0, none⟩ = some .nilIface := cells_of hcl 0
          have HN : Hid (Kd w (wr.setCell ⟨w.heap.size, k, none⟩ (.int .i64 2)) pf gs n x l xs d (k + 1)) := hn
          clear hn s1 s2 s3 hkd hc hcl
          go_wp2_with fail
          go_roundw
          case rel => exact ⟨k + 1, by omega, by go_num, HN.out⟩
          case measure => simp [intOf]; omega
    · go_wp2_with fail
      go_ret2
      have hkn : k = n := by omega
      have h := HKD.out
      rw [hkn] at h
      refine ⟨w.heap.size, w.heap.size + 1, rfl, ?_, ?_, Nat.le_refl _, by omega, h.kp⟩
      · have := h.r1
        rw [tab_congr (g := fun j => .int .i64 (kind (d j))) (fun j hj => by simp [kTo, hj])] at this
        exact this
      · have := h.r2
        rw [tab_congr (g := fun j => .float .f64 (num (d j) x)) (fun j hj => by simp [nTo, hj])] at this
        exact this

end Go.Proofs.Qxb6616951a.A
