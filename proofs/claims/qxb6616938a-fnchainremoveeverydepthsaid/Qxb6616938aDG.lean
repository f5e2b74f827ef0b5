import Derived.Test.Qxb6616938aDF
namespace Go.Proofs.Qxb6616938a.A
open Go.ChangeShapes Go.WideShapes Go.ChangeAt Go.RowKit Go.Sort
set_option linter.unusedVariables false

theorem Op.mono {P : Int → Prop} {w : World} {B U pc : Nat} {sup : Int} {L : Int → List Nat} {c c' : Nat} {xs : List Value} {D : Nat → Nat} {mv : Value} {pd gb : Int → Nat} (h : Op P w B U pc sup L c xs D mv pd gb) (hc : c ≤ c') : Op P w B U pc sup L c' xs D mv pd gb :=
  ⟨h.nm.mono hc, h.h13, h.h15, h.map.mono hc, h.deqs, h.low, h.us⟩

/-- chain.keep -/
theorem keep_any (pc B U p gb0 : Nat) (sup : Int) (L : Int → List Nat) (c : Nat) (k : Int) (xs : List Value) (D : Nat → Nat) (mv : Value) (pd gb : Int → Nat) (ns : List Nat) (w : World)
    (h : Op (fun x => I32 x ∧ x ≠ k) w B U pc sup L c xs D mv pd gb) (hk : I32 k) (hB : B ≤ w.heap.size) (hc : c < 1040000) (hlen : ns.length ≤ 1048576) (hx : ∀ x ∈ ns, x < 4294967296) (hq : DqI w p gb0 ns)
    (hp : 2 ≤ ns.length → B ≤ p ∧ p < U ∧ B ≤ gb0 ∧ gb0 < U) (hne : 2 ≤ ns.length → ∀ x, I32 x → x ≠ k → 2 ≤ (L x).length → p ≠ pd x ∧ gb0 ≠ gb x) :
    Calls Try.prog 25 #[.pointer (some ⟨pc, 0, none⟩), .int .i32 k, .pointer (some ⟨p, 0, none⟩)] w fun e w' => e = .returned (.tuple #[]) ∧ (∃ U', Ch w' B U' pc sup (upd L k ns) (c + 2) ∧ U ≤ U' ∧ (U' = U ∨ (mv = .map none ∧ 2 ≤ ns.length))) ∧ Kc B U pc w w' := by
  match ns, hlen, hx, hq, hp, hne with
  | [], _, hx, hq, _, _ =>
    refine (keep0 pc B U p gb0 sup L c k xs D mv pd gb w h hk hB (by omega) hq).mono ?_
    rintro e w' ⟨rfl, ⟨ys, D', h1⟩, h2⟩
    exact ⟨rfl, ⟨U, ⟨_, _, _, _, _, h1.mono (by omega)⟩, Nat.le_refl _, .inl rfl⟩, h2⟩
  | [x], _, hx, hq, _, _ =>
    refine (keep1 pc B U p gb0 sup L c k xs D mv pd gb x w h hk hB (by omega) (hx x (by simp)) hq).mono ?_
    rintro e w' ⟨rfl, ⟨ys, D', h1⟩, h2⟩
    exact ⟨rfl, ⟨U, ⟨_, _, _, _, _, h1.mono (by omega)⟩, Nat.le_refl _, .inl rfl⟩, h2⟩
  | x :: y :: r, hlen, hx, hq, hp, hne =>
    have hlast : (x :: y :: r).getLastD 0 < 4294967296 := by
      have := getLastD_at (ns := x :: y :: r) (r := r.length + 1) (by simp)
      exact hx _ (List.mem_of_getElem? this)
    have hl2 : 2 ≤ (x :: y :: r).length := by simp
    have hmv : mv = .map none ∨ ∃ b, mv = .map (some b) := by
      rcases h.map with ⟨e, _⟩ | ⟨b, _, e, _⟩
      · exact .inl e
      · exact .inr ⟨b, e⟩
    rcases hmv with rfl | ⟨b, rfl⟩
    · refine (keep2b pc B U p gb0 sup L c k xs D pd gb (x :: y :: r) _ (r.length + 1) w h hk hB hc rfl hl2 hlen (by simp) hlast hq (hp hl2) (hne hl2)).mono ?_
      rintro e w' ⟨rfl, ⟨ys, D', b, U', h1, h3⟩, h2⟩
      exact ⟨rfl, ⟨U', ⟨_, _, _, _, _, h1⟩, h3, .inr ⟨rfl, hl2⟩⟩, h2⟩
    · refine (keep2a pc B U p gb0 sup L c k xs D b pd gb (x :: y :: r) _ (r.length + 1) w h hk hB hc rfl hl2 hlen (by simp) hlast hq (hp hl2) (hne hl2)).mono ?_
      rintro e w' ⟨rfl, ⟨ys, D', h1⟩, h2⟩
      exact ⟨rfl, ⟨U, ⟨_, _, _, _, _, h1⟩, Nat.le_refl _, .inl rfl⟩, h2⟩

theorem Kept.fresh {S T : List Nat} {a b c : World} (h : Kept S a b) (k : Kept T b c) (ht : ∀ j ∈ T, j ∈ S ∨ a.heap.size ≤ j) : Kept S a c :=
  ⟨k.os.trans h.os, k.tape.trans h.tape, k.output.trans h.output, Nat.le_trans h.size k.size, fun j hj hn => by
    rw [k.block j (Nat.lt_of_lt_of_le hj h.size) (fun hm => by
      rcases ht j hm with e | e
      · exact hn e
      · omega)]
    exact h.block j hj hn⟩

theorem getLastD_pos {l : List Nat} (hl : l ≠ []) (hpos : ∀ x ∈ l, 0 < x) : 0 < l.getLastD 0 := by
  rw [List.getLastD_eq_getLast?, List.getLast?_eq_some_getLast hl]
  exact hpos _ (List.getLast_mem hl)

/-- chain.depthsOf: those that the chain keeps -/
theorem depths2 (pc B U : Nat) (sup : Int) (L : Int → List Nat) (c : Nat) (k : Int) (xs : List Value) (D : Nat → Nat) (mv : Value) (pd gb : Int → Nat) (w : World) (h : Op I32 w B U pc sup L c xs D mv pd gb) (hk : I32 k) (hl : 2 ≤ (L k).length) :
    Calls Try.prog 26 #[.pointer (some ⟨pc, 0, none⟩), .int .i32 k] w fun e w' => e = .returned (.pointer (some ⟨pd k, 0, none⟩)) ∧ w' = w := by
  have c15 : w.cell? ⟨pc, 15, none⟩ = some mv := by rw [cells_of h.nm.blk 15]; simpa using h.h15
  obtain ⟨v, hlk, hv⟩ := h.map.look k hk hk
  rw [decide_eq_true hl, hv hl] at hlk
  clear h hv hl
  go_enter Try.func26, Try.ntmps26
  go_wp2_with fail
  go_ret
  exact ⟨rfl, rfl⟩

/-- a fresh deque of one -/
theorem fresh1 (w : World) (q x : Nat) (w2 : World) (hw : w2 = ((w.drewN q).alloc (.cells #[.int .u32 x] 24)).alloc (.cells #[.slice (some ⟨w.heap.size, 0, none⟩) 1 1, .int .i64 0] 65)) :
    DqI w2 (w.heap.size + 1) w.heap.size [x] ∧ Kept [] w w2 := by
  have e1 : ((w.drewN q).alloc (.cells #[.int .u32 x] 24)).heap.size = w.heap.size + 1 := by simp
  have h1 : w2.heap[w.heap.size + 1]? = some (.cells #[.slice (some ⟨w.heap.size, 0, none⟩) 1 1, .int .i64 0] 65 (0, 0)) := by
    rw [hw, ← e1]; exact heap_alloc_new _ _
  have h2 : w2.heap[w.heap.size]? = some (.cells #[.int .u32 x] 24 (0, 0)) := by
    rw [hw, Below.heap_alloc _ _ _ (by rw [e1]; omega)]; exact heap_alloc_new (w.drewN q) _
  have hk : Kept [] w w2 := by rw [hw]; exact ((((Kept.refl _ _).drewN q)).alloc _).alloc _
  refine ⟨.inr ⟨1, 1, 0, [x], ⟨h1, ⟨[.int .u32 x], h2⟩, rfl, fun j v hj => ?_, by omega, by omega, by omega⟩, rfl⟩, hk⟩
  rw [cells_of h2]
  match j, hj with
  | 0, hj => simp at hj; subst hj; rfl
  | j + 1, hj => simp at hj

theorem depths1 (pc B U : Nat) (sup : Int) (L : Int → List Nat) (c : Nat) (k : Int) (xs : List Value) (D : Nat → Nat) (mv : Value) (pd gb : Int → Nat) (x : Nat) (w : World) (h : Op I32 w B U pc sup L c xs D mv pd gb) (hk : I32 k) (hl : L k = [x]) (hx : 0 < x) :
    Calls Try.prog 26 #[.pointer (some ⟨pc, 0, none⟩), .int .i32 k] w fun e w' => ∃ p g, e = .returned (.pointer (some ⟨p, 0, none⟩)) ∧ w.heap.size ≤ p ∧ w.heap.size ≤ g ∧ DqI w' p g [x] ∧ Kept [] w w' := by
  have c15 : w.cell? ⟨pc, 15, none⟩ = some mv := by rw [cells_of h.nm.blk 15]; simpa using h.h15
  obtain ⟨v, hlk, hv⟩ := h.map.look k hk hk
  rw [hl, decide_eq_false (by simp)] at hlk
  have HG : Hid (Calls Try.prog 30 #[.pointer (some ⟨pc, 0, none⟩), .int .i32 k] w fun e w' => e = .returned (.int .u32 x) ∧ ∃ q, w' = w.drewN q) := by
    have := get_any pc B k xs D c w h.nm
    rw [h.low k hk, hl] at this
    exact this
  have hx' : ((x : Int) != 0) = true := by rw [bne_iff_ne]; omega
  clear h hv hl
  go_enter Try.func26, Try.ntmps26
  go_wp2_with fail
  refine HG.out.mono ?_
  rintro e w1 ⟨rfl, q, hw1⟩
  subst hw1
  clear HG
  go_wp2_with fail
  go_ret
  obtain ⟨h1, h2⟩ := fresh1 w q x _ rfl
  exact ⟨_, _, rfl, by omega, Nat.le_refl _, h1, h2⟩

theorem depths0 (pc B U : Nat) (sup : Int) (L : Int → List Nat) (c : Nat) (k : Int) (xs : List Value) (D : Nat → Nat) (mv : Value) (pd gb : Int → Nat) (w : World) (h : Op I32 w B U pc sup L c xs D mv pd gb) (hk : I32 k) (hl : L k = []) :
    Calls Try.prog 26 #[.pointer (some ⟨pc, 0, none⟩), .int .i32 k] w fun e w' => ∃ p g, e = .returned (.pointer (some ⟨p, 0, none⟩)) ∧ w.heap.size ≤ p ∧ w.heap.size ≤ g ∧ DqI w' p g [] ∧ Kept [] w w' := by
  have c15 : w.cell? ⟨pc, 15, none⟩ = some mv := by rw [cells_of h.nm.blk 15]; simpa using h.h15
  obtain ⟨v, hlk, hv⟩ := h.map.look k hk hk
  rw [hl, decide_eq_false (by simp)] at hlk
  have HG : Hid (Calls Try.prog 30 #[.pointer (some ⟨pc, 0, none⟩), .int .i32 k] w fun e w' => e = .returned (.int .u32 0) ∧ ∃ q, w' = w.drewN q) := by
    have := get_any pc B k xs D c w h.nm
    rw [h.low k hk, hl] at this
    exact this
  clear h hv hl
  go_enter Try.func26, Try.ntmps26
  go_wp2_with fail
  refine HG.out.mono ?_
  rintro e w1 ⟨rfl, q, hw1⟩
  subst hw1
  clear HG
  go_wp2_with fail
  go_ret
  exact ⟨_, w.heap.size, rfl, Nat.le_refl _, Nat.le_refl _, .inl ⟨rfl, none, 0, 0, heap_alloc_new (w.drewN q) _, by omega, by omega⟩, ((Kept.refl _ _).drewN q).alloc _⟩

/-- chain.depthsOf -/
theorem depthsOf_any (pc B U : Nat) (sup : Int) (L : Int → List Nat) (c : Nat) (k : Int) (xs : List Value) (D : Nat → Nat) (mv : Value) (pd gb : Int → Nat) (w : World) (h : Op I32 w B U pc sup L c xs D mv pd gb) (hk : I32 k) (hpos : ∀ x ∈ L k, 0 < x) :
    Calls Try.prog 26 #[.pointer (some ⟨pc, 0, none⟩), .int .i32 k] w fun e w' => ∃ p g, e = .returned (.pointer (some ⟨p, 0, none⟩)) ∧ DqI w' p g (L k) ∧ Kept [] w w' ∧ ((2 ≤ (L k).length ∧ p = pd k ∧ g = gb k) ∨ ((L k).length < 2 ∧ w.heap.size ≤ p ∧ w.heap.size ≤ g)) := by
  by_cases h2 : 2 ≤ (L k).length
  · refine (depths2 pc B U sup L c k xs D mv pd gb w h hk h2).mono ?_
    rintro e w' ⟨rfl, rfl⟩
    exact ⟨_, _, rfl, .inr (h.deqs.dq k hk h2), Kept.refl _ _, .inl ⟨h2, rfl, rfl⟩⟩
  · obtain ⟨l, hl⟩ : ∃ l, L k = l := ⟨_, rfl⟩
    match l, hl with
    | [], hl =>
      refine (depths0 pc B U sup L c k xs D mv pd gb w h hk hl).mono ?_
      rintro e w' ⟨p, g, rfl, h1, h3, h4, h5⟩
      exact ⟨p, g, rfl, by rw [hl]; exact h4, h5, .inr ⟨by omega, h1, h3⟩⟩
    | [x], hl =>
      refine (depths1 pc B U sup L c k xs D mv pd gb x w h hk hl (hpos x (by rw [hl]; simp))).mono ?_
      rintro e w' ⟨p, g, rfl, h1, h3, h4, h5⟩
      exact ⟨p, g, rfl, by rw [hl]; exact h4, h5, .inr ⟨by omega, h1, h3⟩⟩
    | x :: y :: r, hl => rw [hl] at h2; simp at h2
end Go.Proofs.Qxb6616938a.A
