import Derived.Test.Qxb6616938aDH
namespace Go.Proofs.Qxb6616938a.A
open Go.ChangeShapes Go.WideShapes Go.ChangeAt Go.RowKit Go.Sort
set_option linter.unusedVariables false

/-- ZZchainRemoveDepth -/
theorem zzRemove (pc B U : Nat) (sup : Int) (L : Int → List Nat) (c : Nat) (k : Int) (q : Nat) (w : World) (h : Ch w B U pc sup L c) (hk : I32 k) (hinc : Inc (L k)) (hq : q ∈ L k) (hB : B ≤ w.heap.size) (hc : c < 1040000) (hlen : (L k).length ≤ 1048576) :
    Calls Try.prog 12 #[.pointer (some ⟨pc, 0, none⟩), .int .i32 k, .int .u32 q] w fun e w' => e = .returned (.tuple #[]) ∧ Ch w' B U pc (wrap64 (sup - 1)) (upd L k ((L k).filter (fun x => x != q))) (c + 2) ∧ Kc B U pc w w' := by
  obtain ⟨xs, D, mv, pd, gb, ho⟩ := h
  have HR := removeDepth_op pc B U sup L c k q xs D mv pd gb w ho hk hinc hq hB hc hlen
  have HRH : Hid (Calls Try.prog 20 #[.pointer (some ⟨pc, 0, none⟩), .int .i32 k, .int .u32 q] w fun e w' => e = .returned (.tuple #[]) ∧ Ch w' B U pc (wrap64 (sup - 1)) (upd L k ((L k).filter (fun x => x != q))) (c + 2) ∧ Kc B U pc w w') := HR
  clear HR ho hinc hq hlen
  go_enter Try.func12, Try.ntmps12
  go_wp2_with fail
  refine HRH.out.mono ?_
  rintro e w4 ⟨rfl, hch, hkc⟩
  go_wp2_with fail
  go_end0
  exact ⟨rfl, hch, hkc⟩

/-- ZZchainDepthsOf -/
theorem zzDepths (pc B U : Nat) (sup : Int) (L : Int → List Nat) (c : Nat) (k : Int) (w : World) (h : Ch w B U pc sup L c) (hk : I32 k) (hpos : ∀ x ∈ L k, 0 < x) :
    Calls Try.prog 22 #[.pointer (some ⟨pc, 0, none⟩), .int .i32 k] w fun e w' => ∃ a g off cap, e = .returned (.slice a (L k).length cap) ∧ Sl w' a g off ((L k).map u32) ∧ Kept [] w w' := by
  obtain ⟨xs, D, mv, pd, gb, ho⟩ := h
  have HR := depthsOf_any pc B U sup L c k xs D mv pd gb w ho hk hpos
  have HRH : Hid (Calls Try.prog 26 #[.pointer (some ⟨pc, 0, none⟩), .int .i32 k] w fun e w' => ∃ p g, e = .returned (.pointer (some ⟨p, 0, none⟩)) ∧ DqI w' p g (L k) ∧ Kept [] w w') := HR.mono (by
    rintro e w' ⟨p, g, h1, h2, h3, _⟩
    exact ⟨p, g, h1, h2, h3⟩)
  clear HR ho hpos
  go_enter Try.func22, Try.ntmps22
  go_wp2_with fail
  refine HRH.out.mono ?_
  rintro e w2 ⟨p, g, rfl, hdq, hkp⟩
  have HI := hdq.items
  have HIH : Hid (Calls Try.prog 28 #[.pointer (some ⟨p, 0, none⟩)] w2 fun e w' => ∃ a off cap, e = .returned (.slice a (L k).length cap) ∧ Sl w2 a g off ((L k).map u32) ∧ ∃ q, w' = w2.drewN q) := HI
  have HK : Hid (Kept [] w w2) := hkp
  clear HI hdq hkp HRH
  go_wp2_with fail
  refine HIH.out.mono ?_
  rintro e w3 ⟨a, off, cap, rfl, hs, q, rfl⟩
  go_wp2_with fail
  go_ret
  exact ⟨a, g, off, cap, rfl, hs.drewN q, HK.out.drewN q⟩

/-- what zzCloneU32 hands on -/
def Cl (w : World) (U : Nat) (v : Value) (ns : List Nat) : Prop := (v = .slice none 0 0 ∧ ns = []) ∨ ∃ g, v = .slice (some ⟨g, 0, none⟩) ns.length ns.length ∧ Rw w g 24 (ns.map u32) ∧ U ≤ g

/-- ZZchainKeep -/
theorem zzKeep (pc B U : Nat) (sup : Int) (L : Int → List Nat) (c : Nat) (k : Int) (v : Value) (ns : List Nat) (w : World) (h : Ch w B U pc sup L c) (hk : I32 k) (hv : Cl w U v ns) (hx : ∀ x ∈ ns, x < 4294967296) (hB : B ≤ w.heap.size) (hBU : B ≤ U) (hc : c < 1040000) (hlen : ns.length ≤ 1048576) :
    Calls Try.prog 19 #[.pointer (some ⟨pc, 0, none⟩), .int .i32 k, v] w fun e w' => e = .returned (.tuple #[]) ∧ (∃ U', Ch w' B U' pc sup (upd L k ns) (c + 2) ∧ U ≤ U') ∧ Below B w w' := by
  obtain ⟨xs, D, mv, pd, gb, ho⟩ := h
  have hUs := ho.us
  have key : Calls Try.prog 25 #[.pointer (some ⟨pc, 0, none⟩), .int .i32 k, .pointer (some ⟨w.heap.size, 0, none⟩)] (w.alloc (.cells #[v, .int .i64 0] 65)) fun e w' => e = .returned (.tuple #[]) ∧ (∃ U', Ch w' B U' pc sup (upd L k ns) (c + 2) ∧ U ≤ U') ∧ Below B w w' := by
    have k1 : Kept [] w (w.alloc (.cells #[v, .int .i64 0] 65)) := (Kept.refl _ _).alloc _
    have hp := heap_alloc_new w (.cells #[v, .int .i64 0] 65)
    have hsz : (w.alloc (.cells #[v, .int .i64 0] 65)).heap.size = w.heap.size + 1 := by simp
    have ho1 := (ho.kept0 k1).raise (U' := w.heap.size + 1) (by omega) (by omega)
    have fin : ∀ (e : Ending) (w' : World), (e = .returned (.tuple #[]) ∧ (∃ U', Ch w' B U' pc sup (upd L k ns) (c + 2) ∧ w.heap.size + 1 ≤ U' ∧ (U' = w.heap.size + 1 ∨ (mv = .map none ∧ 2 ≤ ns.length))) ∧ Kc B (w.heap.size + 1) pc (w.alloc (.cells #[v, .int .i64 0] 65)) w') → e = .returned (.tuple #[]) ∧ (∃ U', Ch w' B U' pc sup (upd L k ns) (c + 2) ∧ U ≤ U') ∧ Below B w w' := by
      rintro e w' ⟨rfl, ⟨U', h1, h2, _⟩, h3⟩
      exact ⟨rfl, ⟨U', h1, by omega⟩, (k1.below hB (by simp)).trans (h3.below (by omega) ho.nm.pc_le)⟩
    rcases hv with ⟨rfl, rfl⟩ | ⟨g, rfl, hr, hg⟩
    · refine (keep_any pc B (w.heap.size + 1) w.heap.size 0 sup L c k xs D mv pd gb [] _ (ho1.weak fun x hx => hx.1) hk (by omega) hc (by simp) (by simp) (.inl ⟨rfl, none, 0, 0, hp, by omega, by omega⟩) (by simp) (by simp)).mono fin
    · have hgl := Rw.lt hr
      have hr1 := hr.kept k1 (by simp)
      have hdq : Dq (w.alloc (.cells #[.slice (some ⟨g, 0, none⟩) ns.length ns.length, .int .i64 0] 65)) w.heap.size g ns.length ns.length 0 ns := ⟨hp, ⟨_, hr1⟩, rfl, fun j v hj => by rw [cells_of hr1]; simp [hj], by omega, by omega, by omega⟩
      refine (keep_any pc B (w.heap.size + 1) w.heap.size g sup L c k xs D mv pd gb ns _ (ho1.weak fun x hx => hx.1) hk (by omega) hc hlen hx (.inr ⟨_, _, _, _, hdq, rfl⟩) (fun _ => by omega) (fun _ x hx hne hl => ?_)).mono fin
      have := ho.deqs.ge x hx hl
      omega
  have HK : Hid (Calls Try.prog 25 #[.pointer (some ⟨pc, 0, none⟩), .int .i32 k, .pointer (some ⟨w.heap.size, 0, none⟩)] (w.alloc (.cells #[v, .int .i64 0] 65)) fun e w' => e = .returned (.tuple #[]) ∧ (∃ U', Ch w' B U' pc sup (upd L k ns) (c + 2) ∧ U ≤ U') ∧ Below B w w') := key
  obtain ⟨a, n, cp, hve⟩ : ∃ a n cp, v = .slice a n cp := by
    rcases hv with ⟨rfl, _⟩ | ⟨g, rfl, _⟩
    · exact ⟨_, _, _, rfl⟩
    · exact ⟨_, _, _, rfl⟩
  subst hve
  clear key ho hv hx hlen hUs
  go_enter Try.func19, Try.ntmps19
  go_wp2_with fail
  refine HK.out.mono ?_
  rintro e w4 ⟨rfl, hch, hkc⟩
  go_wp2_with fail
  go_end0
  exact ⟨rfl, hch, hkc⟩
end Go.Proofs.Qxb6616938a.A
