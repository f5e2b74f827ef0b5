import Derived.Test.Qxb6616938aED
namespace Go.Proofs.Qxb6616938a.A
open Go.ChangeShapes Go.WideShapes Go.ChangeAt Go.RowKit Go.Sort
set_option linter.unusedVariables false

set_option maxRecDepth 100000 in
set_option maxHeartbeats 1000000 in
/-- zzChainShows -/
theorem shows_any (pc B U : Nat) (sup : Int) (L : Int → List Nat) (c : Nat) (k : Int) (a : Option Addr) (g off cp : Nat) (w : World) (h : Ch w B U pc sup L c) (hk : I32 k) (hs : Sl w a g off ((L k).map u32)) (hpos : ∀ x ∈ L k, 0 < x) (hl : (L k).length ≤ 1048576) :
    Calls Try.prog 14 #[.pointer (some ⟨pc, 0, none⟩), .int .i32 k, .slice a (L k).length cp] w fun e w' => e = .returned (.bool true) ∧ Kept [] w w' := by
  have HD : Hid (Calls Try.prog 22 #[.pointer (some ⟨pc, 0, none⟩), .int .i32 k] w fun e w' => ∃ a g off cap, e = .returned (.slice a (L k).length cap) ∧ Sl w' a g off ((L k).map u32) ∧ Kept [] w w') := zzDepths pc B U sup L c k w h hk hpos
  have HH : Hid (Ch w B U pc sup L c ∧ Sl w a g off ((L k).map u32)) := ⟨h, hs⟩
  obtain ⟨t, ht⟩ : ∃ t, Hid (t = (L k).getLastD 0) := ⟨_, rfl⟩
  obtain ⟨m, hm⟩ : ∃ m, Hid (m = (L k).length) := ⟨_, rfl⟩
  rw [← hm.out] at hl ⊢
  rw [← hm.out] at HD
  clear h hs hpos
  go_enter Try.func14, Try.ntmps14
  go_wp2_with fail
  refine HD.out.mono ?_
  rintro e w1 ⟨a2, g2, off2, cap2, rfl, hs2, k1⟩
  have HEQ : Hid (Calls Try.prog 21 #[.slice a2 m cap2, .slice a m cp] w1 fun e w' => e = .returned (.bool true) ∧ ∃ q, w' = w1.drewN q) := by
    rw [hm.out]
    exact equal_any a2 a g2 off2 cap2 g off cp (L k) w1 hs2 (HH.out.2.kept0 k1) (by rw [← hm.out]; omega)
  have HK1 : Hid (Kept [] w w1) := k1
  clear hs2 k1 HD
  go_wp2_with fail
  refine HEQ.out.mono ?_
  rintro e w2 ⟨rfl, q, hw2⟩
  subst hw2
  clear HEQ
  have HDP : Hid (Calls Try.prog 23 #[.pointer (some ⟨pc, 0, none⟩), .int .i32 k] (w1.drewN q) fun e w' => e = .returned (.int .u32 t) ∧ ∃ q2, w' = w1.drewN q2) := (deepest_any pc B U sup L c k (w1.drewN q) (HH.out.1.kept0 (HK1.out.drewN q)) hk).mono (by
    rintro e w' ⟨rfl, q2, rfl⟩
    rw [← ht.out]
    exact ⟨rfl, q + q2, by simp⟩)
  have HKD : Hid (∀ q2, Calls Try.prog 24 #[.pointer (some ⟨pc, 0, none⟩), .int .i32 k] (w1.drewN q2) fun e w' => e = .returned (.bool (decide (2 ≤ m))) ∧ w' = w1.drewN q2) := fun q2 => by
    rw [hm.out]
    exact keeps_any pc B U sup L c k (w1.drewN q2) (HH.out.1.kept0 (HK1.out.drewN q2)) hk
  have htt : ((t : Int) != (t : Int)) = false := by simp
  by_cases h0 : m = 0
  · have h0I : ¬ (0 : Int) < (m : Int) := by omega
    have ht0 : t = 0 := by
      have e : L k = [] := List.eq_nil_of_length_eq_zero (by rw [← hm.out]; exact h0)
      rw [ht.out, e]; rfl
    have hfin : ((decide (2 ≤ m)) == (decide ((2 : Int) ≤ (m : Int)))) = true := by rw [h0]; rfl
    subst ht0
    go_wp2_with fail
    refine HDP.out.mono ?_
    rintro e w2 ⟨rfl, q2, hw2⟩
    subst hw2
    clear HDP
    go_wp2_with fail
    refine (HKD.out q2).mono ?_
    rintro e w2 ⟨rfl, hw2⟩
    subst hw2
    clear HKD
    go_wp2_with fail
    go_ret
    refine ⟨?_, HK1.out.drewN q2⟩
    rw [← hfin]
    rfl
  · obtain ⟨r, hr⟩ : ∃ r, m = r + 1 := ⟨m - 1, by omega⟩
    have h0I : (0 : Int) < (m : Int) := by omega
    obtain rfl := HH.out.2.at_ (by simp [← hm.out]; omega)
    have hlast : (L k)[r]? = some t := by rw [ht.out]; exact getLastD_at (by rw [← hm.out]; exact hr)
    have e1 : w1.cell? ⟨g, off + r, none⟩ = some (.int .u32 t) := (HH.out.2.kept0 HK1.out).cells r (u32 t) (by simp [hlast])
    have hrI : (r : Int) < (m : Int) := by omega
    have hw : (m : Int) - 1 = (r : Int) := by omega
    have HR : Hid (m = r + 1) := hr
    have hfin : ((decide (2 ≤ m)) == (decide ((2 : Int) ≤ (m : Int)))) = true := by
      by_cases h2 : 2 ≤ m
      · rw [decide_eq_true h2, decide_eq_true (by omega)]; rfl
      · rw [decide_eq_false h2, decide_eq_false (by omega)]; rfl
    clear hr hlast
    go_wp2_with fail
    refine HDP.out.mono ?_
    rintro e w2 ⟨rfl, q2, hw2⟩
    subst hw2
    clear HDP
    go_wp2_with fail
    refine (HKD.out q2).mono ?_
    rintro e w2 ⟨rfl, hw2⟩
    subst hw2
    clear HKD
    go_wp2_with fail
    go_ret
    refine ⟨?_, HK1.out.drewN q2⟩
    rw [← hfin]
    rfl
end Go.Proofs.Qxb6616938a.A
