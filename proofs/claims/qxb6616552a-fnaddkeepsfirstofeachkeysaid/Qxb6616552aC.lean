import Derived.Test.Qxb6616552aB
namespace Go.Proofs.Qxb6616552a.A
open Go.ChangeShapes Go.WideShapes Go.ChangeAt Go.RowKit Go.Maps
set_option linter.unusedVariables false

/-- members lie in block g, four cells each -/
def MemsAt (w : World) (g : Nat) (ms : List Fd) : Prop :=
  ∀ i f, ms[i]? = some f → w.cell? ⟨g, i * 4, none⟩ = some (.string f.key) ∧ w.cell? ⟨g, i * 4 + 1, none⟩ = some (.int .u8 f.kind) ∧ w.cell? ⟨g, i * 4 + 2, none⟩ = some (.string f.text) ∧ w.cell? ⟨g, i * 4 + 3, none⟩ = some (.bool false)

theorem MemsAt.below {w w' : World} {g : Nat} {ms : List Fd} (h : MemsAt w g ms) (hb : Below w.heap.size w w') (hg : 0 < ms.length → g < w.heap.size) : MemsAt w' g ms := fun i f hi => by
  have hl : i < ms.length := (List.getElem?_eq_some_iff.1 hi).1
  have hg' := hg (by omega)
  obtain ⟨h1, h2, h3, h4⟩ := h i f hi
  exact ⟨(hb.cell (p := ⟨g, i * 4, none⟩) hg').trans h1, (hb.cell (p := ⟨g, i * 4 + 1, none⟩) hg').trans h2, (hb.cell (p := ⟨g, i * 4 + 2, none⟩) hg').trans h3, (hb.cell (p := ⟨g, i * 4 + 3, none⟩) hg').trans h4⟩

set_option maxHeartbeats 400000 in
theorem has_any (p g c : Nat) (a : Option Addr) (ms : List Fd) (key : ByteArray) (w : World) (h0 : w.cell? ⟨p, 0, none⟩ = some (.slice a ms.length c)) (ha : 0 < ms.length → a = some ⟨g, 0, none⟩ ∧ g < w.heap.size) (hm : MemsAt w g ms) (hl : ms.length ≤ 1048576) :
    Calls Try.prog 19 #[.pointer (some ⟨p, 0, none⟩), .string key] w fun e w' => e = .returned (.bool (hasK ms key)) ∧ Below w.heap.size w w' := by
  have HF : Hid (MemsAt w g ms) := hm
  have HA : Hid (0 < ms.length → a = some ⟨g, 0, none⟩ ∧ g < w.heap.size) := ha
  clear hm ha
  go_enter Try.func19, Try.ntmps19
  go_wp2
  go_loopw [12] (fun t wr => ∃ k : Nat, k ≤ ms.length ∧ t = .int .i64 k ∧ hasK (ms.take k) key = false ∧ Below w.heap.size w wr) (fun t _ => ms.length - (intOf t).toNat)
  case atStart => exact ⟨0, Nat.zero_le _, rfl, rfl, Below.refl _ _⟩
  case round =>
    obtain ⟨k, hk, rfl, hn, hb⟩ := hrel
    have HN : Hid (hasK (ms.take k) key = false) := hn
    have HB : Hid (Below w.heap.size w wr) := hb
    clear hn hb
    by_cases hlt : k < ms.length
    · obtain ⟨rfl, hg⟩ := HA.out (by omega)
      clear HA
      obtain ⟨fk, hfk⟩ : ∃ f, ms[k]? = some f := ⟨_, List.getElem?_eq_getElem (by omega)⟩
      obtain ⟨d1, d2, d3, d4⟩ := (HF.out.below HB.out (fun _ => hg)) k fk hfk
      obtain ⟨kK, hkK⟩ : ∃ x, x = fk.key := ⟨_, rfl⟩
      rw [← hkK] at d1
      have HKK : Hid (kK = fk.key) := hkK
      have HFK : Hid (ms[k]? = some fk) := hfk
      clear hkK hfk
      have hkl : (k : Int) < (ms.length : Int) := by omega
      cases he : (kK.toList == key.toList)
      · go_wp2
        go_roundw
        case rel => exact ⟨k + 1, by omega, by go_num, by rw [hasK_take_succ HFK.out, HN.out, ← HKK.out, he]; rfl, HB.out.alloc HB.out.size _⟩
        case measure => simp [intOf]; omega
      · go_wp2
        go_ret
        exact ⟨ret_bool (by rw [← hasK_none (Nat.le_refl ms.length), hasK_of_take HFK.out hlt (by rw [← HKK.out]; exact he)]), HB.out.alloc HB.out.size _⟩
    · go_wp2
      go_ret
      exact ⟨ret_bool (by rw [← HN.out, hasK_none (by omega)]), HB.out⟩

theorem zzhas_any (p g c : Nat) (a : Option Addr) (ms : List Fd) (key : ByteArray) (w : World) (h0 : w.cell? ⟨p, 0, none⟩ = some (.slice a ms.length c)) (ha : 0 < ms.length → a = some ⟨g, 0, none⟩ ∧ g < w.heap.size) (hm : MemsAt w g ms) (hl : ms.length ≤ 1048576) :
    Calls Try.prog 16 #[.pointer (some ⟨p, 0, none⟩), .string key] w fun e w' => e = .returned (.bool (hasK ms key)) ∧ Below w.heap.size w w' := by
  have hc := has_any p g c a ms key w h0 ha hm hl
  have HC : Hid (Calls Try.prog 19 #[.pointer (some ⟨p, 0, none⟩), .string key] w fun e w' => e = .returned (.bool (hasK ms key)) ∧ Below w.heap.size w w') := hc
  clear hc h0 ha hm
  go_enter Try.func16, Try.ntmps16
  go_wp2_with (go_at_call 19; refine HC.out.mono ?_; rintro e w' ⟨rfl, hb⟩)
  go_ret
  exact ⟨rfl, hb⟩

/-- the closure 'func(m member) bool { return m.key == key }': its captured variable lies at block q -/
theorem clo_any (q : Nat) (k : ByteArray) (kd : Int) (t : ByteArray) (tk : Bool) (key : ByteArray) (w : World) (h0 : w.cell? ⟨q, 0, none⟩ = some (.string key)) :
    Calls Try.prog 21 #[.agg #[.string k, .int .u8 kd, .string t, .bool tk], .pointer (some ⟨q, 0, none⟩)] w fun e w' => e = .returned (.bool (k.toList == key.toList)) ∧ w' = w.alloc (.cells #[.string k, .int .u8 kd, .string t, .bool tk] 48) := by
  have hq : q < w.heap.size := World.block_lt_of_cell? _ _ h0
  go_enter Try.func21, Try.ntmps21
  go_wp2
  go_ret
  exact ⟨rfl, rfl⟩

/-- the place of the first member of that key, or -1 -/
theorem index_any (q g c : Nat) (a : Option Addr) (ms : List Fd) (key : ByteArray) (w : World) (h0 : w.cell? ⟨q, 0, none⟩ = some (.string key)) (ha : 0 < ms.length → a = some ⟨g, 0, none⟩ ∧ g < w.heap.size) (hm : MemsAt w g ms) (hl : ms.length ≤ 1048576) :
    Calls Try.prog 22 #[.slice a ms.length c, .func (.func 21) #[] #[.pointer (some ⟨q, 0, none⟩)]] w fun e w' => (∃ r : Int, e = .returned (.int .i64 r) ∧ decide (0 ≤ r) = hasK ms key) ∧ Below w.heap.size w w' := by
  have hq : q < w.heap.size := World.block_lt_of_cell? _ _ h0
  have HF : Hid (MemsAt w g ms) := hm
  have HA : Hid (0 < ms.length → a = some ⟨g, 0, none⟩ ∧ g < w.heap.size) := ha
  clear hm ha
  go_enter Try.func22, Try.ntmps22
  go_wp2
  go_loopw [8] (fun t wr => ∃ k : Nat, k ≤ ms.length ∧ t = .int .i64 k ∧ hasK (ms.take k) key = false ∧ Below w.heap.size w wr) (fun t _ => ms.length - (intOf t).toNat)
  case atStart => exact ⟨0, Nat.zero_le _, rfl, rfl, Below.refl _ _⟩
  case round =>
    obtain ⟨k, hk, rfl, hn, hb⟩ := hrel
    have HN : Hid (hasK (ms.take k) key = false) := hn
    have HB : Hid (Below w.heap.size w wr) := hb
    have hq1 : wr.cell? ⟨q, 0, none⟩ = some (.string key) := (hb.cell (p := ⟨q, 0, none⟩) hq).trans h0
    clear hn hb h0
    by_cases hlt : k < ms.length
    · obtain ⟨rfl, hg⟩ := HA.out (by omega)
      clear HA
      obtain ⟨fk, hfk⟩ : ∃ f, ms[k]? = some f := ⟨_, List.getElem?_eq_getElem (by omega)⟩
      obtain ⟨d1, d2, d3, d4⟩ := (HF.out.below HB.out (fun _ => hg)) k fk hfk
      obtain ⟨kK, hkK⟩ : ∃ x, x = fk.key := ⟨_, rfl⟩
      rw [← hkK] at d1
      have HKK : Hid (kK = fk.key) := hkK
      have HFK : Hid (ms[k]? = some fk) := hfk
      clear hkK hfk
      have hkl : (k : Int) < (ms.length : Int) := by omega
      have HC : Hid (∀ tt, Calls Try.prog 21 #[.agg #[.string kK, .int .u8 fk.kind, .string tt, .bool false], .pointer (some ⟨q, 0, none⟩)] wr fun e w' => e = .returned (.bool (kK.toList == key.toList)) ∧ w' = wr.alloc (.cells #[.string kK, .int .u8 fk.kind, .string tt, .bool false] 48)) := fun tt => clo_any q kK fk.kind tt false key wr hq1
      cases he : (kK.toList == key.toList)
      · go_wp2_with (go_at_call 21; refine (HC.out _).mono ?_; rw [he]; rintro e w' ⟨rfl, rfl⟩)
        go_roundw
        case rel => exact ⟨k + 1, by omega, by go_num, by rw [hasK_take_succ HFK.out, HN.out, ← HKK.out, he]; rfl, HB.out.alloc HB.out.size _⟩
        case measure => simp [intOf]; omega
      · go_wp2_with (go_at_call 21; refine (HC.out _).mono ?_; rw [he]; rintro e w' ⟨rfl, rfl⟩)
        go_ret
        refine ⟨⟨_, rfl, ?_⟩, HB.out.alloc HB.out.size _⟩
        rw [← hasK_none (Nat.le_refl ms.length), hasK_of_take HFK.out hlt (by rw [← HKK.out]; exact he)]
        simp
    · go_wp2
      go_ret
      exact ⟨⟨_, rfl, by rw [← hasK_none (k := k) (by omega), HN.out]; rfl⟩, HB.out⟩

theorem contains_any (q g c : Nat) (a : Option Addr) (ms : List Fd) (key : ByteArray) (w : World) (h0 : w.cell? ⟨q, 0, none⟩ = some (.string key)) (ha : 0 < ms.length → a = some ⟨g, 0, none⟩ ∧ g < w.heap.size) (hm : MemsAt w g ms) (hl : ms.length ≤ 1048576) :
    Calls Try.prog 20 #[.slice a ms.length c, .func (.func 21) #[] #[.pointer (some ⟨q, 0, none⟩)]] w fun e w' => e = .returned (.bool (hasK ms key)) ∧ Below w.heap.size w w' := by
  have hc := index_any q g c a ms key w h0 ha hm hl
  have HC : Hid (Calls Try.prog 22 #[.slice a ms.length c, .func (.func 21) #[] #[.pointer (some ⟨q, 0, none⟩)]] w fun e w' => (∃ r : Int, e = .returned (.int .i64 r) ∧ decide (0 ≤ r) = hasK ms key) ∧ Below w.heap.size w w') := hc
  clear hc h0 ha hm
  go_enter Try.func20, Try.ntmps20
  go_wp2_with (go_at_call 22; refine HC.out.mono ?_; rintro e w' ⟨⟨r, rfl, hr⟩, hb⟩)
  go_ret
  exact ⟨ret_bool (by simp), hb⟩

end Go.Proofs.Qxb6616552a.A
