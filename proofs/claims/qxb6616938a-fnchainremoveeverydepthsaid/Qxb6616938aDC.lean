import Derived.Test.Qxb6616938aDB
namespace Go.Proofs.Qxb6616938a.A
open Go.ChangeShapes Go.WideShapes Go.ChangeAt Go.RowKit Go.Sort
set_option linter.unusedVariables false

theorem Op.drewN {P : Int → Prop} {w : World} {B U pc : Nat} {sup : Int} {L : Int → List Nat} {c : Nat} {xs : List Value} {D : Nat → Nat} {mv : Value} {pd gb : Int → Nat} (h : Op P w B U pc sup L c xs D mv pd gb) (q : Nat) : Op P (w.drewN q) B U pc sup L c xs D mv pd gb := h.kept0 ((Kept.refl _ _).drewN q)
theorem Sl.drewN {w : World} {a : Option Addr} {g off : Nat} {us : List Value} (h : Sl w a g off us) (q : Nat) : Sl (w.drewN q) a g off us := ⟨h.at_, h.cells⟩

set_option maxRecDepth 100000 in
theorem keep0 (pc B U p gb0 : Nat) (sup : Int) (L : Int → List Nat) (c : Nat) (k : Int) (xs : List Value) (D : Nat → Nat) (mv : Value) (pd gb : Int → Nat) (w : World)
    (h : Op (fun x => I32 x ∧ x ≠ k) w B U pc sup L c xs D mv pd gb) (hk : I32 k) (hB : B ≤ w.heap.size) (hc : c < 1048576) (hq : DqI w p gb0 []) :
    Calls Try.prog 25 #[.pointer (some ⟨pc, 0, none⟩), .int .i32 k, .pointer (some ⟨p, 0, none⟩)] w fun e w' => e = .returned (.tuple #[]) ∧ (∃ ys D', Op I32 w' B U pc sup (upd L k []) (c + 1) ys D' mv pd gb) ∧ Kc B U pc w w' := by
  have HI : Hid (Calls Try.prog 28 #[.pointer (some ⟨p, 0, none⟩)] w fun e w' => ∃ a off cap, e = .returned (.slice a 0 cap) ∧ Sl w a gb0 off [] ∧ ∃ q, w' = w.drewN q) := hq.items
  have HS : Hid (∀ q, Calls Try.prog 31 #[.pointer (some ⟨pc, 0, none⟩), .int .i32 k, .int .u32 0] (w.drewN q) fun e w' => e = .returned (.tuple #[]) ∧ ∃ ys, NM w' B pc ys (put' D (key32 k) 0) (c + 1) ∧ (∀ i, 9 ≤ i → ys[i]? = xs[i]?) ∧ Kt B pc (w.drewN q) w') := fun q => set_any pc B k 0 c xs D (w.drewN q) (h.drewN q).nm hB (by omega) hc
  have HO : Hid (Op (fun x => I32 x ∧ x ≠ k) w B U pc sup L c xs D mv pd gb) := h
  clear h hq
  go_enter Try.func25, Try.ntmps25
  go_wp2_with fail
  refine HI.out.mono ?_
  rintro e w1 ⟨a, off, cap, rfl, _, q, hw1⟩
  subst hw1
  clear HI
  go_wp2_with fail
  refine (HS.out q).mono ?_
  rintro e w1 ⟨rfl, ys, hnm, hys, hkt⟩
  have c15 : w1.cell? ⟨pc, 15, none⟩ = some mv := by rw [cells_of hnm.blk 15]; simpa using (hys 15 (by omega)).trans HO.out.h15
  obtain ⟨w2, hdel, hop, hkc⟩ := (HO.out.drewN q).gone [] hk (by simp) hnm hys hkt hB 0
  have HOP : Hid (Op I32 w2 B U pc sup (upd L k []) (c + 1) ys (put' D (key32 k) 0) mv pd gb) := hop
  have HKC : Hid (Kc B U pc (w.drewN q) w2) := hkc
  clear hnm hys hkt hop hkc HS
  go_wp2_with fail
  go_end0
  exact ⟨rfl, ⟨_, _, HOP.out⟩, ⟨HKC.out.os, HKC.out.tape, HKC.out.output, HKC.out.size, HKC.out.block⟩⟩
end Go.Proofs.Qxb6616938a.A
