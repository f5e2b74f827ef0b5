import Derived.Test.Qxb6616552aG
import Derived.OpenShut
import Derived.Deep.Slices
namespace Go.Proofs.Qxb6616552a.A
open Go.ChangeShapes Go.WideShapes Go.ChangeAt Go.RowKit Go.Deep
set_option linter.unusedVariables false

theorem cells25 : Try.prog.cellsOf 25 = 3 := by kernel_rfl
theorem cells9 : Try.prog.cellsOf 9 = 1 := by kernel_rfl
theorem cells5 : Try.prog.cellsOf 5 = 1 := by kernel_rfl

section
variable {H : Type} {enc : TypeId × Value → H} {w : World} {base : Nat} {spare : Nat → Bool} {held : Bool}

/-- one field out of its cells -/
theorem field_of {n : Nat} {cs : List Value} {x : DataW H × List MemPlace} (h : DataW.trod enc Try.prog w base spare held n 25 cs = some x) :
    ∃ q : ByteArray × Int × ByteArray, cs = [.string q.1, .int .u8 q.2.1, .string q.2.2] ∧ q.1.size ≤ maxLen ∧ 0 ≤ q.2.1 ∧ q.2.1 ≤ 255 := by
  obtain ⟨xs, k, hk, hxy, hlen, hxl, hf⟩ := DataW.trod_struct Try.underlying25 h
  rw [cells25] at hlen
  match cs, hlen, xs, hxl with
  | [v0, v1, v2], _, [y0, y1, y2], _ =>
    have g0 := hf 0 _ rfl
    have g1 := hf 1 _ rfl
    have g2 := hf 2 _ rfl
    simp [cells9, cells5] at g0 g1 g2
    obtain ⟨s, e0, _, hs⟩ := DataW.trod_string Try.underlying9 g0
    obtain ⟨z, e1, _, hz⟩ := DataW.trod_int Try.underlying5 g1
    obtain ⟨s', e2, _, _⟩ := DataW.trod_string Try.underlying9 g2
    have hb := bounds_u8 hz
    injection e0 with e0
    injection e1 with e1
    injection e2 with e2
    exact ⟨(s, z, s'), by rw [e0, e1, e2], hs, hb.1, hb.2⟩

theorem in_of {a : Option Addr} {len cap fuel : Nat} {x : DataW H × List MemPlace} (h : DataW.trod enc Try.prog w base spare held fuel 22 [.slice a len cap] = some x) :
    ∃ b off fs, fs.length = len ∧ In w a b off fs := by
  rcases open_slice Try.underlying22 h with ⟨hcs, _⟩ | ⟨ad, len', cap', m, n, D, Pl, hcs, _, hl, hm, hmm, _, hel⟩
  · injection hcs with hcs
    injection hcs with e1 e2 e3
    subst e1 e2
    exact ⟨0, 0, [], rfl, ⟨by simp, by simp, fun i f hi => by simp at hi, by simp, by simp, by simp⟩⟩
  · injection hcs with hcs
    injection hcs with e1 e2 e3
    subst e1 e2 e3
    have hlm : len ≤ m := by rw [hmm]; split <;> omega
    rw [cells25] at hel
    obtain ⟨q, hq⟩ := choose_lt (n := len) (p := fun i (q : ByteArray × Int × ByteArray) => w.cell? (ad.add (i * 3)) = some (.string q.1) ∧ w.cell? (ad.add (i * 3 + 1)) = some (.int .u8 q.2.1) ∧ w.cell? (ad.add (i * 3 + 2)) = some (.string q.2.2) ∧ q.1.size ≤ maxLen ∧ 0 ≤ q.2.1 ∧ q.2.1 ≤ 255) (fun i hi => by
      obtain ⟨cs', h1, h2⟩ := hel i (by omega)
      obtain ⟨q, rfl, hs, h0, h5⟩ := field_of h2
      obtain ⟨_, _, hc⟩ := World.cells?_some h1
      have c0 := hc 0 (by omega)
      have c1 := hc 1 (by omega)
      have c2 := hc 2 (by omega)
      rw [add_add] at c0 c1 c2
      exact ⟨q, by simpa using c0, by simpa using c1, by simpa using c2, hs, h0, h5⟩)
    by_cases h0 : 0 < len
    · obtain ⟨b, off, spot⟩ := ad
      have hspot : spot = none := by simpa [Addr.add] using World.cell?_spot ((hq 0 h0).1)
      subst hspot
      have hblk : b < w.heap.size := by
        have := World.block_lt_of_cell? _ _ (hq 0 h0).1
        simpa [Addr.add] using this
      have get : ∀ i f, ((List.range len).map fun i => (⟨(q i).1, (q i).2.1, (q i).2.2⟩ : Fd))[i]? = some f → i < len ∧ f = ⟨(q i).1, (q i).2.1, (q i).2.2⟩ := fun i f hi => by
        have hil : i < len := by simpa using (List.getElem?_eq_some_iff.1 hi).1
        refine ⟨hil, ?_⟩
        rw [List.getElem?_map, List.getElem?_range hil] at hi
        simpa using hi.symm
      refine ⟨b, off, (List.range len).map fun i => ⟨(q i).1, (q i).2.1, (q i).2.2⟩, by simp, ⟨fun _ => rfl, fun _ => hblk, ?_, ?_, ?_, ?_⟩⟩
      · intro i f hi
        obtain ⟨hil, rfl⟩ := get i f hi
        obtain ⟨r1, r2, r3, _⟩ := hq i hil
        rw [add_plain] at r1 r2 r3
        exact ⟨r1, r2, r3⟩
      · intro f hf
        obtain ⟨i, hi⟩ := List.getElem?_of_mem hf
        obtain ⟨hil, rfl⟩ := get i f hi
        exact (hq i hil).2.2.2.1
      · intro f hf
        obtain ⟨i, hi⟩ := List.getElem?_of_mem hf
        obtain ⟨hil, rfl⟩ := get i f hi
        exact (hq i hil).2.2.2.2
      · simp; unfold maxLen at hm; omega
    · have : len = 0 := by omega
      subst this
      exact ⟨0, 0, [], rfl, ⟨by simp, by simp, fun i f hi => by simp at hi, by simp, by simp, by simp⟩⟩
end
end Go.Proofs.Qxb6616552a.A
