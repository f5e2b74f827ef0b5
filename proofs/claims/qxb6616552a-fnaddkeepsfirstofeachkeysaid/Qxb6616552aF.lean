import Derived.Test.Qxb6616552aD
import Derived.Deep.RegionWith
namespace Go.Proofs.Qxb6616552a.A
open Go.ChangeShapes Go.WideShapes Go.ChangeAt Go.RowKit Go.Maps
set_option linter.unusedVariables false

theorem zzadd_any (B p : Nat) (ms : List Fd) (f : Fd) (w : World) (hs : St w B p ms) (hB : B ≤ w.heap.size) (hl : ms.length ≤ 5000) (hk : f.key.size ≤ maxLen) (hks : ∀ g ∈ ms, g.key.size ≤ maxLen) :
    Calls Try.prog 8 #[.pointer (some ⟨p, 0, none⟩), .string f.key, .int .u8 f.kind, .string f.text] w fun e w' => e = .returned (.bool (!hasK ms f.key)) ∧ St w' B p (addM ms f) ∧ Below B w w' := by
  have HC : Hid (Calls Try.prog 18 #[.pointer (some ⟨p, 0, none⟩), .string f.key, .agg #[.int .u8 f.kind, .string f.text]] w fun e w' => e = .returned (.bool (!hasK ms f.key)) ∧ St w' B p (addM ms f) ∧ Below B w w') := add_any B p ms f w hs hB hl hk hks
  clear hs hks
  go_enter Try.func8, Try.ntmps8
  go_wp2_with (go_at_call 18; refine HC.out.mono ?_; rintro e w' ⟨rfl, hst, hb⟩)
  go_ret
  exact ⟨rfl, hst, hb⟩

/-- of the first k fields, those that are first of their key -/
def kept (fs : List Fd) : Nat → List Fd
  | 0 => []
  | k + 1 => match fs[k]? with
    | some f => addM (kept fs k) f
    | none => kept fs k

theorem kept_has (fs : List Fd) (k : Nat) (s : ByteArray) : hasK (kept fs k) s = hasK (fs.take k) s := by
  induction k with
  | zero => rfl
  | succ k ih =>
    cases hf : fs[k]? with
    | none =>
      have : kept fs (k + 1) = kept fs k := by simp [kept, hf]
      rw [this, ih]
      have hl : fs.length ≤ k := List.getElem?_eq_none_iff.1 hf
      rw [List.take_of_length_le hl, List.take_of_length_le (by omega)]
    | some f =>
      have : kept fs (k + 1) = addM (kept fs k) f := by simp [kept, hf]
      rw [this, hasK_take_succ hf, ← ih]
      unfold addM
      cases hh : hasK (kept fs k) f.key
      · simp [hasK]
      · simp only [if_true]
        cases hs : (f.key.toList == s.toList)
        · simp
        · have e : f.key.toList = s.toList := by simpa using hs
          have : hasK (kept fs k) s = hasK (kept fs k) f.key := by unfold hasK; rw [e]
          rw [this, hh]; rfl

theorem kept_mem (fs : List Fd) (k : Nat) : ∀ g ∈ kept fs k, g ∈ fs := by
  induction k with
  | zero => intro g hg; simp [kept] at hg
  | succ k ih =>
    intro g hg
    cases hf : fs[k]? with
    | none => simp [kept, hf] at hg; exact ih g hg
    | some f =>
      simp only [kept, hf, addM] at hg
      split at hg
      · exact ih g hg
      · rcases List.mem_append.1 hg with h | h
        · exact ih g h
        · simp at h; subst h; exact List.mem_of_getElem? hf

theorem addM_len (ms : List Fd) (f : Fd) : (addM ms f).length = ms.length + (if hasK ms f.key then 0 else 1) := by
  unfold addM; split <;> simp

theorem kept_len (fs : List Fd) (k : Nat) : (kept fs k).length ≤ k := by
  induction k with
  | zero => simp [kept]
  | succ k ih =>
    cases hf : fs[k]? with
    | none => simp [kept, hf]; omega
    | some f => simp only [kept, hf, addM_len]; split <;> omega

theorem kept_succ {fs : List Fd} {k : Nat} {f : Fd} (h : fs[k]? = some f) : kept fs (k + 1) = addM (kept fs k) f := by simp [kept, h]

theorem addM_has (ms : List Fd) (f : Fd) : hasK (addM ms f) f.key = true := by
  unfold addM
  cases hh : hasK ms f.key
  · simp [hasK]
  · simpa using hh

theorem St.below {w w' : World} {B p : Nat} {ms : List Fd} (h : St w B p ms) (hb : Below w.heap.size w w') : St w' B p ms := by
  obtain ⟨v, mv, ho, h8⟩ := h
  exact ⟨v, mv, ho.below hb, h8⟩
theorem St.lt {w : World} {B p : Nat} {ms : List Fd} (h : St w B p ms) : B ≤ w.heap.size := by
  obtain ⟨v, mv, ho, h8⟩ := h
  have := ho.lt; have := ho.hp; omega

theorem zzhas_st (B p : Nat) (ms : List Fd) (key : ByteArray) (w : World) (h : St w B p ms) (hl : ms.length ≤ 1048576) :
    Calls Try.prog 16 #[.pointer (some ⟨p, 0, none⟩), .string key] w fun e w' => e = .returned (.bool (hasK ms key)) ∧ St w' B p ms ∧ Below B w w' := by
  obtain ⟨v, mv, ho, h8⟩ := h
  obtain ⟨a, c, g, rfl, ha, hm⟩ := ho.slice
  refine (zzhas_any p g c a ms key w ho.cells.1 ha hm hl).mono ?_
  rintro e w' ⟨rfl, hb⟩
  exact ⟨rfl, ⟨_, _, ho.below hb, h8⟩, hb.mono (by have := ho.lt; have := ho.hp; omega)⟩

theorem count_st (B p : Nat) (ms : List Fd) (w : World) (h : St w B p ms) :
    Calls Try.prog 9 #[.pointer (some ⟨p, 0, none⟩)] w fun e w' => e = .returned (.int .i64 ms.length) ∧ w' = w := by
  obtain ⟨v, mv, ho, h8⟩ := h
  obtain ⟨a, c, g, rfl, ha, hm⟩ := ho.slice
  exact count_any p ms.length a c w ho.cells.1

end Go.Proofs.Qxb6616552a.A
