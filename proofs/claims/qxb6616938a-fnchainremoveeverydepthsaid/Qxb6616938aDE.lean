import Derived.Test.Qxb6616938aDD
import Derived.Carry
namespace Go.Proofs.Qxb6616938a.A
open Go.ChangeShapes Go.WideShapes Go.ChangeAt Go.RowKit Go.Sort
set_option linter.unusedVariables false

theorem getLastD_at {ns : List Nat} {r : Nat} (hr : ns.length = r + 1) : ns[r]? = some (ns.getLastD 0) := by
  rw [List.getLastD_eq_getLast?, List.getLast?_eq_getElem?, hr, Nat.add_sub_cancel]
  obtain ⟨v, hv⟩ : ∃ v, ns[r]? = some v := ⟨_, List.getElem?_eq_getElem (by omega)⟩
  rw [hv]; rfl

theorem DqI.dq {w : World} {p gb0 : Nat} {ns : List Nat} (h : DqI w p gb0 ns) (hne : ns ≠ []) : ∃ n cap st vs, Dq w p gb0 n cap st vs ∧ vs.drop st = ns := by
  rcases h with ⟨e, _⟩ | h
  · exact absurd e hne
  · exact h

set_option maxRecDepth 100000 in
set_option maxHeartbeats 1000000 in
theorem keep2a (pc B U p gb0 : Nat) (sup : Int) (L : Int → List Nat) (c : Nat) (k : Int) (xs : List Value) (D : Nat → Nat) (b : Nat) (pd gb : Int → Nat) (ns : List Nat) (m r : Nat) (w : World)
    (h : Op (fun x => I32 x ∧ x ≠ k) w B U pc sup L c xs D (.map (some b)) pd gb) (hk : I32 k) (hB : B ≤ w.heap.size) (hc : c < 1040000) (hr : ns.length = m) (hm : 2 ≤ m) (hm2 : m ≤ 1048576) (hmr : m = r + 1) (hx : ns.getLastD 0 < 4294967296) (hq : DqI w p gb0 ns) (hp : B ≤ p ∧ p < U ∧ B ≤ gb0 ∧ gb0 < U) (hne : ∀ x, I32 x → x ≠ k → 2 ≤ (L x).length → p ≠ pd x ∧ gb0 ≠ gb x) :
    Calls Try.prog 25 #[.pointer (some ⟨pc, 0, none⟩), .int .i32 k, .pointer (some ⟨p, 0, none⟩)] w fun e w' => e = .returned (.tuple #[]) ∧ (∃ ys D', Op I32 w' B U pc sup (upd L k ns) (c + 2) ys D' (.map (some b)) (upd pd k p) (upd gb k gb0)) ∧ Kc B U pc w w' := by
  obtain ⟨x, hxe⟩ : ∃ x, x = ns.getLastD 0 := ⟨_, rfl⟩
  have hlast : ns[r]? = some x := by rw [hxe]; exact getLastD_at (by omega)
  have HI : Hid (Calls Try.prog 28 #[.pointer (some ⟨p, 0, none⟩)] w fun e w' => ∃ a off cap, e = .returned (.slice a m cap) ∧ Sl w a gb0 off (ns.map u32) ∧ ∃ q, w' = w.drewN q) := by rw [← hr]; exact hq.items
  have HS : Hid (∀ q, Calls Try.prog 31 #[.pointer (some ⟨pc, 0, none⟩), .int .i32 k, .int .u32 x] (w.drewN q) fun e w' => e = .returned (.tuple #[]) ∧ ∃ ys, NM w' B pc ys (put' D (key32 k) x) (c + 1) ∧ (∀ i, 9 ≤ i → ys[i]? = xs[i]?) ∧ Kt B pc (w.drewN q) w') := fun q => set_any pc B k x c xs D (w.drewN q) (h.drewN q).nm hB (by omega) (by omega)
  have hnn : ns ≠ [] := fun e => by rw [e] at hr; simp at hr; omega
  have HC : Hid (∀ q w1 off v, Kt B pc (w.drewN q) w1 → w.cell? ⟨gb0, off, none⟩ = some v → w1.cell? ⟨gb0, off, none⟩ = some v) := fun q w1 off v h1 h2 => hq.cell hnn h.nm.blk h1 h2
  have HN : Hid (∀ q w1 ys, NM w1 B pc ys (put' D (key32 k) x) (c + 1) → (∀ i, 9 ≤ i → ys[i]? = xs[i]?) → Kt B pc (w.drewN q) w1 → ∃ w2, (Instr.mapUpdate 51 (.map (some b)) (.int .i32 k) (.pointer (some ⟨p, 0, none⟩))).run Try.prog w1 = .ok () w2 ∧ (∃ ys D', Op I32 w2 B U pc sup (upd L k ns) (c + 2) ys D' (.map (some b)) (upd pd k p) (upd gb k gb0)) ∧ Kc B U pc w w2) := fun q w1 ys h1 h2 h3 => by
    have h4 := (h.drewN q).sets hk h1 h2 h3
    obtain ⟨n, cap, st, vs, hd, he⟩ := hq.dq hnn
    obtain ⟨zs, hz⟩ := hd.row
    have hd1 : Dq w1 p gb0 n cap st vs := Dq.stay (w := w.drewN q) ⟨hd.blk, hd.row, hd.len, hd.cells, hd.st_le, hd.n_le, hd.cap_le⟩ h3.turn (Xt.not (h.drewN q).nm.blk hd.blk (by decide) (by decide)) (Xt.not (h.drewN q).nm.blk hz (by decide) (by decide))
    obtain ⟨w2, hrun, ho, hkp, hb1, hb2⟩ := h4.stored ns p gb0 hk (by omega) (by rw [put_same, hxe]) ⟨n, cap, st, vs, hd1, he⟩ hp hne (by omega)
    refine ⟨w2, hrun, ⟨_, _, ho⟩, ?_⟩
    have := (Kc.of (U := U) h3).snoc hkp (by simp; omega) hB
    exact ⟨this.os, this.tape, this.output, this.size, this.block⟩
  have h15 := h.h15
  have hw : IntKind.i64.wrap ((m : Int) - 1) = (r : Int) := by rw [wrap_i64 (by omega) (by omega)]; omega
  have hrI : (r : Int) < (m : Int) := by omega
  have hm0 : ((m : Int) == 0) = false := by rw [beq_eq_false_iff_ne]; omega
  have hm1 : ((m : Int) == 1) = false := by rw [beq_eq_false_iff_ne]; omega
  have HM : Hid (m = r + 1) := hmr
  have HR : Hid (ns.length = m) := hr
  have HLT : Hid (ns[r]? = some x) := hlast
  have hqT : ∀ (w : World) (r : Option Nat), (binOp .eql 51 (.map r) (.map none)).run Try.prog w = .ok (.bool r.isNone) w := fun w r => run_eql_map_nil w _ _ _ r Try.underlying51
  clear h hq hne hxe hx hmr hr hlast
  go_enter Try.func25, Try.ntmps25
  go_wp2_with fail
  refine HI.out.mono ?_
  rintro e w1 ⟨a, off, cap, rfl, hs, q, hw1⟩
  subst hw1
  obtain rfl := hs.at_ (by simp [HR.out]; omega)
  have e1 : w.cell? ⟨gb0, off + r, none⟩ = some (.int .u32 x) := hs.cells r (u32 x) (by simp [HLT.out])
  clear HI hs
  go_wp2_with fail
  go_region_held3 (fun y => y.cell? ⟨gb0, off + r, none⟩ = some (.int .u32 x)) (go_keep) ((go_at_call 31; refine (HS.out (q + 1)).mono ?_; rintro e w1 ⟨rfl, ys, hnm, hys, hkt⟩; have d0 : w1.cell? ⟨gb0, off + r, none⟩ = some (.int .u32 x) := HC.out _ _ _ _ hkt e1))
  have c15 : w1.cell? ⟨pc, 15, none⟩ = some (.map (some b)) := by rw [cells_of hnm.blk 15]; simpa using (hys 15 (by omega)).trans h15
  obtain ⟨w2, hupd, hop, hkc⟩ := HN.out _ _ _ hnm hys hkt
  have HOP : Hid (∃ ys D', Op I32 w2 B U pc sup (upd L k ns) (c + 2) ys D' (.map (some b)) (upd pd k p) (upd gb k gb0)) := hop
  have HKC : Hid (Kc B U pc w w2) := hkc
  clear hnm hys hkt hop hkc HS HN HC
  go_wp2_with fail
  go_end0
  exact ⟨rfl, HOP.out, HKC.out⟩
end Go.Proofs.Qxb6616938a.A
