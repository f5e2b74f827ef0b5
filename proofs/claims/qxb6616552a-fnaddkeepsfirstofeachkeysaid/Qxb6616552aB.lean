import Derived.Test.Qxb6616552aA
namespace Go.Proofs.Qxb6616552a.A
open Go.ChangeShapes Go.WideShapes Go.ChangeAt Go.RowKit Go.Maps
set_option linter.unusedVariables false

/-- the fields lie at block b from offset off on, three cells each -/
def FieldsAt (w : World) (b off : Nat) (fs : List Fd) : Prop :=
  ∀ i f, fs[i]? = some f → w.cell? ⟨b, off + i * 3, none⟩ = some (.string f.key) ∧ w.cell? ⟨b, off + i * 3 + 1, none⟩ = some (.int .u8 f.kind) ∧ w.cell? ⟨b, off + i * 3 + 2, none⟩ = some (.string f.text)

theorem hasK_take_succ {fs : List Fd} {k : Nat} {f : Fd} (h : fs[k]? = some f) (s : ByteArray) : hasK (fs.take (k + 1)) s = (hasK (fs.take k) s || (f.key.toList == s.toList)) := by
  unfold hasK
  rw [List.take_add_one, h]
  simp

theorem hasK_of_take {fs : List Fd} {k : Nat} {f : Fd} (h : fs[k]? = some f) {i : Nat} (hi : k < i) {s : ByteArray} (he : (f.key.toList == s.toList) = true) : hasK (fs.take i) s = true := by
  unfold hasK
  rw [List.any_eq_true]
  refine ⟨f, ?_, he⟩
  rw [List.mem_take_iff_getElem]
  obtain ⟨hk, hf⟩ := List.getElem?_eq_some_iff.1 h
  exact ⟨k, by omega, hf⟩

set_option maxHeartbeats 400000 in
theorem firstOf_any (b off c i : Nat) (fs : List Fd) (fi : Fd) (w : World) (hf : FieldsAt w b off fs) (hi : fs[i]? = some fi) (hl : fs.length ≤ 1048576) :
    Calls Try.prog 7 #[.slice (some ⟨b, off, none⟩) fs.length c, .int .i64 i] w fun e w' => e = .returned (.bool (!hasK (fs.take i) fi.key)) ∧ ∃ n, w' = w.drewN n := by
  have hil : i < fs.length := (List.getElem?_eq_some_iff.1 hi).1
  have hiI : (i : Int) < (fs.length : Int) := by omega
  obtain ⟨c1, _, _⟩ := hf i fi hi
  obtain ⟨kI, hkI⟩ : ∃ x, x = fi.key := ⟨_, rfl⟩
  rw [← hkI] at c1
  have HK : Hid (kI = fi.key) := hkI
  have HI : Hid (fs[i]? = some fi) := hi
  have HF : Hid (FieldsAt w b off fs) := hf
  clear hkI hi hf
  go_enter Try.func7, Try.ntmps7
  go_wp2
  go_loopw [5] (fun t wr => ∃ k n : Nat, k ≤ i ∧ t = .int .i64 k ∧ hasK (fs.take k) kI = false ∧ wr = World.drewN w n) (fun t _ => i - (intOf t).toNat)
  case atStart => exact ⟨0, 0, Nat.zero_le _, rfl, rfl, rfl⟩
  case round =>
    obtain ⟨k, n, hk, rfl, hn, rfl⟩ := hrel
    have HN : Hid (hasK (fs.take k) kI = false) := hn
    clear hn
    by_cases hlt : k < i
    · obtain ⟨fk, hfk⟩ : ∃ f, fs[k]? = some f := ⟨_, List.getElem?_eq_getElem (by omega)⟩
      obtain ⟨d1, _, _⟩ := HF.out k fk hfk
      obtain ⟨kK, hkK⟩ : ∃ x, x = fk.key := ⟨_, rfl⟩
      rw [← hkK] at d1
      have HKK : Hid (kK = fk.key) := hkK
      have HFK : Hid (fs[k]? = some fk) := hfk
      clear hkK hfk
      have hkl : (k : Int) < (fs.length : Int) := by omega
      cases he : (kK.toList == kI.toList)
      · go_wp2
        go_quiet (fail)
        go_wp2
        go_roundw
        case rel => exact ⟨k + 1, n + nq, by omega, by go_num, by rw [hasK_take_succ HFK.out, HN.out, ← HKK.out, he]; rfl, by simp⟩
        case measure => simp [intOf]; omega
      · go_wp2
        go_quiet (fail)
        go_wp2
        go_ret
        exact ⟨ret_bool (by rw [← HK.out, hasK_of_take HFK.out hlt (by rw [← HKK.out]; exact he)]; rfl), n + nq, by simp⟩
    · go_wp2
      go_ret
      exact ⟨ret_bool (by rw [← HK.out, show i = k from by omega, HN.out]; rfl), n, rfl⟩

theorem hasK_none {fs : List Fd} {k : Nat} (h : fs.length ≤ k) (s : ByteArray) : hasK (fs.take k) s = hasK fs s := by rw [List.take_of_length_le h]

set_option maxHeartbeats 400000 in
theorem hasKey_any (a : Option Addr) (b off c : Nat) (fs : List Fd) (key : ByteArray) (w : World) (ha : 0 < fs.length → a = some ⟨b, off, none⟩) (hf : FieldsAt w b off fs) (hl : fs.length ≤ 1048576) :
    Calls Try.prog 17 #[.slice a fs.length c, .string key] w fun e w' => e = .returned (.bool (hasK fs key)) ∧ w' = w := by
  have HF : Hid (FieldsAt w b off fs) := hf
  have HA : Hid (0 < fs.length → a = some ⟨b, off, none⟩) := ha
  clear hf ha
  go_enter Try.func17, Try.ntmps17
  go_wp2
  go_loopw [5] (fun t wr => ∃ k : Nat, k ≤ fs.length ∧ t = .int .i64 k ∧ hasK (fs.take k) key = false ∧ wr = w) (fun t _ => fs.length - (intOf t).toNat)
  case atStart => exact ⟨0, Nat.zero_le _, rfl, rfl, rfl⟩
  case round =>
    obtain ⟨k, hk, rfl, hn, rfl⟩ := hrel
    have HN : Hid (hasK (fs.take k) key = false) := hn
    clear hn
    by_cases hlt : k < fs.length
    · obtain rfl := HA.out (by omega)
      clear HA
      obtain ⟨fk, hfk⟩ : ∃ f, fs[k]? = some f := ⟨_, List.getElem?_eq_getElem (by omega)⟩
      obtain ⟨d1, _, _⟩ := HF.out k fk hfk
      obtain ⟨kK, hkK⟩ : ∃ x, x = fk.key := ⟨_, rfl⟩
      rw [← hkK] at d1
      have HKK : Hid (kK = fk.key) := hkK
      have HFK : Hid (fs[k]? = some fk) := hfk
      clear hkK hfk
      have hkl : (k : Int) < (fs.length : Int) := by omega
      cases he : (kK.toList == key.toList)
      · go_wp2
        go_roundw
        case rel => exact ⟨k + 1, by omega, by go_num, by rw [hasK_take_succ HFK.out, HN.out, ← HKK.out, he]; rfl, by simp⟩
        case measure => simp [intOf]; omega
      · go_wp2
        go_ret
        exact ⟨ret_bool (by rw [← hasK_none (Nat.le_refl fs.length), hasK_of_take HFK.out hlt (by rw [← HKK.out]; exact he)]), rfl⟩
    · go_wp2
      go_ret
      exact ⟨ret_bool (by rw [← HN.out, hasK_none (by omega)]), rfl⟩

set_option maxHeartbeats 400000 in
theorem bytes5_any (a : Option Addr) (b off c : Nat) (fs : List Fd) (w : World) (ha : 0 < fs.length → a = some ⟨b, off, none⟩) (hf : FieldsAt w b off fs) (hl : fs.length ≤ 9223372036854775807) :
    Calls Try.prog 5 #[.slice a fs.length c] w fun e w' => (∃ r, e = .returned (.bool r)) ∧ w' = w := by
  have HF : Hid (FieldsAt w b off fs) := hf
  have HA : Hid (0 < fs.length → a = some ⟨b, off, none⟩) := ha
  clear hf ha
  go_enter Try.func5, Try.ntmps5
  go_wp2
  · go_ret
    exact ⟨⟨_, rfl⟩, rfl⟩
  go_loopw [3, 4] (fun z t wr => ∃ (x : Int) (k : Nat), k ≤ fs.length ∧ z = .int .i64 x ∧ t = .int .i64 k ∧ wr = w) (fun _ t _ => fs.length - (intOf t).toNat)
  case atStart => exact ⟨_, 0, Nat.zero_le _, rfl, rfl, rfl⟩
  case round =>
    obtain ⟨x, k, hk, rfl, rfl, rfl⟩ := hrel
    by_cases hlt : k < fs.length
    · obtain rfl := HA.out (by omega)
      clear HA
      obtain ⟨fk, hfk⟩ : ∃ f, fs[k]? = some f := ⟨_, List.getElem?_eq_getElem (by omega)⟩
      obtain ⟨d1, _, d3⟩ := HF.out k fk hfk
      clear hfk
      have hkl : (k : Int) < (fs.length : Int) := by omega
      go_wp2
      case roundEnd =>
        go_roundw
        case rel => exact ⟨_, k + 1, by omega, rfl, by go_num, by simp⟩
        case measure => simp [intOf]; omega
      all_goals (go_ret; exact ⟨⟨_, rfl⟩, rfl⟩)
    · go_wp2
      go_ret
      exact ⟨⟨_, rfl⟩, rfl⟩

set_option maxHeartbeats 400000 in
theorem bytes15_any (a : Option Addr) (b off c : Nat) (fs : List Fd) (pr : ByteArray) (w : World) (ha : 0 < fs.length → a = some ⟨b, off, none⟩) (hf : FieldsAt w b off fs) (hl : fs.length ≤ 9223372036854775807) :
    Calls Try.prog 15 #[.slice a fs.length c, .string pr] w fun e w' => (∃ r, e = .returned (.bool r)) ∧ w' = w := by
  have HF : Hid (FieldsAt w b off fs) := hf
  have HA : Hid (0 < fs.length → a = some ⟨b, off, none⟩) := ha
  clear hf ha
  go_enter Try.func15, Try.ntmps15
  go_wp2
  · go_ret
    exact ⟨⟨_, rfl⟩, rfl⟩
  go_loopw [5, 6] (fun z t wr => ∃ (x : Int) (k : Nat), k ≤ fs.length ∧ z = .int .i64 x ∧ t = .int .i64 k ∧ wr = w) (fun _ t _ => fs.length - (intOf t).toNat)
  case atStart => exact ⟨_, 0, Nat.zero_le _, rfl, rfl, rfl⟩
  case round =>
    obtain ⟨x, k, hk, rfl, rfl, rfl⟩ := hrel
    by_cases hlt : k < fs.length
    · obtain rfl := HA.out (by omega)
      clear HA
      obtain ⟨fk, hfk⟩ : ∃ f, fs[k]? = some f := ⟨_, List.getElem?_eq_getElem (by omega)⟩
      obtain ⟨d1, _, d3⟩ := HF.out k fk hfk
      clear hfk
      have hkl : (k : Int) < (fs.length : Int) := by omega
      go_wp2
      case roundEnd =>
        go_roundw
        case rel => exact ⟨_, k + 1, by omega, rfl, by go_num, by simp⟩
        case measure => simp [intOf]; omega
      all_goals (go_ret; exact ⟨⟨_, rfl⟩, rfl⟩)
    · go_wp2
      all_goals (go_ret; exact ⟨⟨_, rfl⟩, rfl⟩)

end Go.Proofs.Qxb6616552a.A
