import Derived.Test.Qxb6616938aDC
namespace Go.Proofs.Qxb6616938a.A
open Go.ChangeShapes Go.WideShapes Go.ChangeAt Go.RowKit Go.Sort
set_option linter.unusedVariables false

/-- numberMap's operations keep a deque's cells -/
theorem DqI.cell {w w1 : World} {p gb0 pc B : Nat} {ns : List Nat} {xs : List Value} (h : DqI w p gb0 ns) (hne : ns ≠ []) (hp : Rw w pc 57 xs) {q : Nat} (hk : Kt B pc (w.drewN q) w1) {off : Nat} {v : Value} (hv : w.cell? ⟨gb0, off, none⟩ = some v) : w1.cell? ⟨gb0, off, none⟩ = some v := by
  rcases h with ⟨e, _⟩ | ⟨n, cap, st, vs, h, _⟩
  · exact absurd e hne
  · obtain ⟨zs, hz⟩ := h.row
    have hz' : Rw w1 gb0 24 zs := hk.rw (show Rw (w.drewN q) gb0 24 zs from hz) (by decide) (hz.ne hp (by decide))
    rw [cells_of hz', ← cells_of hz]
    exact hv

set_option maxRecDepth 100000 in
set_option maxHeartbeats 1000000 in
theorem keep1 (pc B U p gb0 : Nat) (sup : Int) (L : Int → List Nat) (c : Nat) (k : Int) (xs : List Value) (D : Nat → Nat) (mv : Value) (pd gb : Int → Nat) (x : Nat) (w : World)
    (h : Op (fun x => I32 x ∧ x ≠ k) w B U pc sup L c xs D mv pd gb) (hk : I32 k) (hB : B ≤ w.heap.size) (hc : c < 1048576) (hx : x < 4294967296) (hq : DqI w p gb0 [x]) :
    Calls Try.prog 25 #[.pointer (some ⟨pc, 0, none⟩), .int .i32 k, .pointer (some ⟨p, 0, none⟩)] w fun e w' => e = .returned (.tuple #[]) ∧ (∃ ys D', Op I32 w' B U pc sup (upd L k [x]) (c + 1) ys D' mv pd gb) ∧ Kc B U pc w w' := by
  have HI : Hid (Calls Try.prog 28 #[.pointer (some ⟨p, 0, none⟩)] w fun e w' => ∃ a off cap, e = .returned (.slice a 1 cap) ∧ Sl w a gb0 off [u32 x] ∧ ∃ q, w' = w.drewN q) := hq.items
  have HS : Hid (∀ q, Calls Try.prog 31 #[.pointer (some ⟨pc, 0, none⟩), .int .i32 k, .int .u32 x] (w.drewN q) fun e w' => e = .returned (.tuple #[]) ∧ ∃ ys, NM w' B pc ys (put' D (key32 k) x) (c + 1) ∧ (∀ i, 9 ≤ i → ys[i]? = xs[i]?) ∧ Kt B pc (w.drewN q) w') := fun q => set_any pc B k x c xs D (w.drewN q) (h.drewN q).nm hB hx hc
  have HO : Hid (Op (fun x => I32 x ∧ x ≠ k) w B U pc sup L c xs D mv pd gb) := h
  have HC : Hid (∀ q w1 off v, Kt B pc (w.drewN q) w1 → w.cell? ⟨gb0, off, none⟩ = some v → w1.cell? ⟨gb0, off, none⟩ = some v) := fun q w1 off v h1 h2 => hq.cell (by simp) h.nm.blk h1 h2
  clear h hq
  go_enter Try.func25, Try.ntmps25
  go_wp2_with fail
  refine HI.out.mono ?_
  rintro e w1 ⟨a, off, cap, rfl, hs, q, hw1⟩
  subst hw1
  obtain rfl := hs.at_ (by simp)
  have e1 : w.cell? ⟨gb0, off, none⟩ = some (.int .u32 x) := hs.cells 0 (u32 x) rfl
  clear HI hs
  go_wp2_with fail
  go_region_held3 (fun y => y.cell? ⟨gb0, off, none⟩ = some (.int .u32 x)) (go_keep) ((go_at_call 31; refine (HS.out (q + 1)).mono ?_; rintro e w1 ⟨rfl, ys, hnm, hys, hkt⟩; have d0 : w1.cell? ⟨gb0, off, none⟩ = some (.int .u32 x) := HC.out _ _ _ _ hkt e1))
  have c15 : w1.cell? ⟨pc, 15, none⟩ = some mv := by rw [cells_of hnm.blk 15]; simpa using (hys 15 (by omega)).trans HO.out.h15
  obtain ⟨w2, hdel, hop, hkc⟩ := (HO.out.drewN (q + 1)).gone [x] hk (by simp) hnm hys hkt hB 0
  have HOP : Hid (Op I32 w2 B U pc sup (upd L k [x]) (c + 1) ys (put' D (key32 k) x) mv pd gb) := hop
  have HKC : Hid (Kc B U pc (w.drewN (q + 1)) w2) := hkc
  clear hnm hys hkt hop hkc HS
  go_wp2_with fail
  go_end0
  exact ⟨rfl, ⟨_, _, HOP.out⟩, ⟨HKC.out.os, HKC.out.tape, HKC.out.output, HKC.out.size, HKC.out.block⟩⟩
end Go.Proofs.Qxb6616938a.A
