import Derived.Test.Qxb6619029aWalkA
namespace Go.Proofs.Qxb6619029a.A
open Go.ChangeShapes Go.WideShapes Go.ChangeAt Go.RowKit
set_option linter.unusedVariables false

def emp : ByteArray := ⟨#[]⟩

theorem ba_ext {a b : ByteArray} (h : a.data.toList = b.data.toList) : a = b := by
  cases a; cases b; congr 1; exact Array.toList_inj.1 h

theorem fr_list (a : ByteArray) : (fr a).data.toList = pre.data.toList ++ (a.data.toList ++ (suf.data.toList ++ jsn.data.toList)) := by
  simp [fr, fs, ByteArray.data_append]

theorem ext_list (a : ByteArray) (i j : Nat) : (a.extract i j).data.toList = (a.data.toList.take j).drop i := by
  simp [ByteArray.data_extract, List.drop_take]

theorem ext_end (a : ByteArray) (i : Nat) : (a.extract i a.size).data.toList = a.data.toList.drop i := by
  rw [ext_list, List.take_of_length_le (show a.data.toList.length ≤ a.size from Nat.le_refl _)]

theorem drop_pre (x : ByteArray) : (fr x).data.toList.drop 14 = x.data.toList ++ (suf.data.toList ++ jsn.data.toList) := by
  rw [fr_list]; exact List.drop_left (l₁ := pre.data.toList)

theorem framed_at (x : ByteArray) : framed (fr emp) 14 x (fr x) = true := by
  have e1 : (fr x).extract 0 14 = (fr emp).extract 0 14 := by
    apply ba_ext; rw [ext_list, ext_list, fr_list, fr_list]
    rw [List.take_append_of_le_length (by decide), List.take_append_of_le_length (by decide)]
  have hx : x.size = x.data.toList.length := rfl
  have e2 : (fr x).extract 14 (14 + x.size) = x := by
    apply ba_ext; rw [ext_list, List.drop_take, drop_pre, show 14 + x.size - 14 = x.data.toList.length from by omega]
    exact List.take_left
  have e3 : (fr x).extract (14 + x.size) (fr x).size = (fr emp).extract 14 (fr emp).size := by
    apply ba_ext; rw [ext_end, ext_end, ← List.drop_drop, drop_pre, drop_pre, hx, List.drop_left]; rfl
  simp [framed, e1, e2, e3]

set_option maxHeartbeats 400000 in
theorem walk (a0 : ByteArray) (a1 : ByteArray) (w0 : a0.size ≤ maxLen) (w1 : a1.size ≤ maxLen) (w : World) :
    Calls Try.prog 3 #[.string a0, .string a1] w fun e w' => e = .returned (.bool true) ∧ Grown w w' := by
  cases hB : bytesB a0 a1
  · go_enter Try.func3, Try.ntmps3
    go_wp2_with (go_at_call 4; refine (bytes_any _ _ _ w0 w1).mono ?_; rw [hB]; rintro e w' ⟨rfl, rfl⟩)
    go_ret
    exact ⟨rfl, Grown.refl _⟩
  have v0 := w0
  have v1 := w1
  unfold maxLen at w0 w1
  by_cases h0 : 65536 < a0.size
  · go_enter Try.func3, Try.ntmps3
    go_wp2_with (go_at_call 4; refine (bytes_any _ _ _ v0 v1).mono ?_; rw [hB]; rintro e w' ⟨rfl, rfl⟩)
    go_ret
    exact ⟨rfl, Grown.refl _⟩
  by_cases h1 : 65536 < a1.size
  · go_enter Try.func3, Try.ntmps3
    go_wp2_with (go_at_call 4; refine (bytes_any _ _ _ v0 v1).mono ?_; rw [hB]; rintro e w' ⟨rfl, rfl⟩)
    go_ret
    exact ⟨rfl, Grown.refl _⟩
  have g0 : a0.size ≤ 65536 := by omega
  have g1 : a1.size ≤ 65536 := by omega
  have se : (fr emp).size = 48 := by rw [fr_size]; rfl
  have s0 := fr_size a0
  have s1 := fr_size a1
  have k0 : (((fr a0).size : Int) != (48 : Int) + (a0.size : Int)) = false := by rw [bne_eq_false_iff_eq]; omega
  have k1 : (((fr a1).size : Int) != (48 : Int) + (a1.size : Int)) = false := by rw [bne_eq_false_iff_eq]; omega
  have t0 : (fr a0).size ≤ 70000 := by omega
  have t1 : (fr a1).size ≤ 70000 := by omega
  have S0 : Hid ((fr a0).size = a0.size + 48) := s0
  have S1 : Hid ((fr a1).size = a1.size + 48) := s1
  clear s0 s1
  go_enter Try.func3, Try.ntmps3
  go_wp2_with (go_at_call 4; refine (bytes_any _ _ _ v0 v1).mono ?_; rw [hB]; rintro e w' ⟨rfl, rfl⟩)
  refine (zz_any emp _ (Nat.zero_le _)).mono ?_
  rintro e w' ⟨rfl, rfl⟩
  go_wp2_with fail
  refine (zz_any _ _ g0).mono ?_
  rintro e w' ⟨rfl, rfl⟩
  go_wp2_with fail
  refine (zz_any _ _ g1).mono ?_
  rintro e w' ⟨rfl, rfl⟩
  go_wp2_with fail
  go_loopw [8] (fun i wx => ∃ k n : Nat, k ≤ 14 ∧ i = .int .i64 k ∧ wx = World.drewN w' n) (fun i _ => 14 - (intOf i).toNat)
  case atStart => exact ⟨0, 0, Nat.zero_le _, rfl, rfl⟩
  case round =>
    obtain ⟨k, n, hk, rfl, rfl⟩ := hrel
    have fe : ∀ (x : ByteArray), (fr x).size = (fr emp).size + x.size := fun x => by rw [fr_size, fr_size]; show _ = 0 + 48 + _; omega
    have hke : k ≤ (fr emp).size := by omega
    have he : (fr emp).size ≤ 100 := by omega
    have c0 := fun w => framed_any (fr emp) a0 (fr a0) k w hke (fe a0) he g0
    have c1 := fun w => framed_any (fr emp) a1 (fr a1) k w hke (fe a1) he g1
    have C0 : Hid (∀ w, Calls Try.prog 6 #[.string (fr emp), .int .i64 k, .string a0, .string (fr a0)] w fun e' w' => e' = .returned (.bool (framed (fr emp) k a0 (fr a0))) ∧ ∃ n, w' = w.drewN n) := c0
    have C1 : Hid (∀ w, Calls Try.prog 6 #[.string (fr emp), .int .i64 k, .string a1, .string (fr a1)] w fun e' w' => e' = .returned (.bool (framed (fr emp) k a1 (fr a1))) ∧ ∃ n, w' = w.drewN n) := c1
    clear c0 c1 fe
    have hkI : (k : Int) ≤ 48 := by omega
    have G : Hid (k = 14 → framed (fr emp) k a0 (fr a0) = true ∧ framed (fr emp) k a1 (fr a1) = true) := fun h => by rw [h]; exact ⟨framed_at a0, framed_at a1⟩
    cases b0 : framed (fr emp) k a0 (fr a0)
    · have hne : k < 14 := by
        rcases Nat.lt_or_ge k 14 with h | h
        · exact h
        · have := (G.out (by omega)).1; rw [b0] at this; cases this
      go_wp2_with fail
      refine (C0.out _).mono ?_
      rintro e w1 ⟨rfl, n1, rfl⟩
      rw [b0]
      go_wp2_with fail
      go_roundw
      case rel => exact ⟨k + 1, n + n1, by omega, by go_num, by simp⟩
      case measure => simp [intOf]; omega
    · cases b1 : framed (fr emp) k a1 (fr a1)
      · have hne : k < 14 := by
          rcases Nat.lt_or_ge k 14 with h | h
          · exact h
          · have := (G.out (by omega)).2; rw [b1] at this; cases this
        go_wp2_with fail
        refine (C0.out _).mono ?_
        rintro e w1 ⟨rfl, n1, rfl⟩
        rw [b0]
        go_wp2_with fail
        refine (C1.out _).mono ?_
        rintro e w1 ⟨rfl, n2, rfl⟩
        rw [b1]
        go_wp2_with fail
        go_roundw
        case rel => exact ⟨k + 1, n + n1 + n2, by omega, by go_num, by simp⟩
        case measure => simp [intOf]; omega
      · go_wp2_with fail
        refine (C0.out _).mono ?_
        rintro e w1 ⟨rfl, n1, rfl⟩
        rw [b0]
        go_wp2_with fail
        refine (C1.out _).mono ?_
        rintro e w1 ⟨rfl, n2, rfl⟩
        rw [b1]
        go_wp2_with fail
        go_ret
        exact ⟨rfl, Grown.refl w'⟩

end Go.Proofs.Qxb6619029a.A
