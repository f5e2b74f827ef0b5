import Derived.Test.Qxb6616938aProg
namespace Go.Proofs.Qxb6616938a.A
set_option linter.unusedVariables false

/-- from a to b, going up and round -/
def dist (M a b : Nat) : Nat := if a ≤ b then b - a else b + M - a
def nx (M i : Nat) : Nat := if i + 1 < M then i + 1 else 0

theorem dist_lt {M a b : Nat} (ha : a < M) (hb : b < M) : dist M a b < M := by unfold dist; split <;> omega
theorem dist_self (M a : Nat) : dist M a a = 0 := by unfold dist; split <;> omega
theorem dist_inj {M a b c : Nat} (ha : a < M) (hb : b < M) (hc : c < M) (h : dist M a b = dist M a c) : b = c := by unfold dist at h; split at h <;> split at h <;> omega
theorem nx_lt {M i : Nat} (hi : i < M) : nx M i < M := by unfold nx; split <;> omega
/-- a step towards z -/
theorem dist_nx {M a b z : Nat} (ha : a < M) (hb : b < M) (hz : z < M) (h : dist M a b < dist M a z) : dist M a (nx M b) = dist M a b + 1 := by
  unfold dist nx at *; split at h <;> split at h <;> split <;> split <;> omega
theorem dist_down {M j z : Nat} (hj : j < M) (hz : z < M) (h : j ≠ z) : dist M (nx M j) z < dist M j z := by
  unfold dist nx; split <;> split <;> split <;> omega
theorem dist_one {M i : Nat} (hi : i < M) (h : 1 < M) : dist M i (nx M i) = 1 := by unfold dist nx; split <;> split <;> omega
theorem dist_pos {M a b : Nat} (ha : a < M) (hb : b < M) (h : a ≠ b) : 1 ≤ dist M a b := by unfold dist; split <;> omega

def put' (f : Nat → Nat) (i v : Nat) : Nat → Nat := fun q => if q = i then v else f q
@[simp] theorem put_same (f : Nat → Nat) (i v : Nat) : put' f i v i = v := by simp [put']
theorem put_ne (f : Nat → Nat) {i q : Nat} (v : Nat) (h : q ≠ i) : put' f i v q = f q := by simp [put', h]

/-- the entries of f below M are those of D -/
structure Ent (M : Nat) (f D : Nat → Nat) : Prop where
  val : ∀ i, i < M → f i ≠ 0 → f i % 4294967296 ≠ 0 ∧ D (f i / 4294967296) = f i % 4294967296
  has : ∀ k, D k ≠ 0 → ∃ i, i < M ∧ f i ≠ 0 ∧ f i / 4294967296 = k
  uni : ∀ i j, i < M → j < M → f i ≠ 0 → f j ≠ 0 → f i / 4294967296 = f j / 4294967296 → i = j

structure Tbl (M : Nat) (hm f D : Nat → Nat) : Prop extends Ent M f D where
  reach : ∀ i, i < M → f i ≠ 0 → ∀ q, q < M → dist M (hm (f i / 4294967296)) q < dist M (hm (f i / 4294967296)) i → f q ≠ 0

def cnt (f : Nat → Nat) : Nat → Nat
  | 0 => 0
  | M + 1 => cnt f M + if f M = 0 then 0 else 1

theorem cnt_congr {f g : Nat → Nat} {M : Nat} (h : ∀ i, i < M → f i = g i) : cnt f M = cnt g M := by
  induction M with
  | zero => rfl
  | succ M ih => simp only [cnt]; rw [ih (fun i hi => h i (by omega)), h M (by omega)]
theorem cnt_le (f : Nat → Nat) (M : Nat) : cnt f M ≤ M := by
  induction M with
  | zero => simp [cnt]
  | succ M ih => simp only [cnt]; split <;> omega
theorem cnt_zero (M : Nat) : cnt (fun _ => 0) M = 0 := by
  induction M with
  | zero => rfl
  | succ M ih => simp [cnt, ih]
theorem cnt_free {f : Nat → Nat} {M : Nat} (h : cnt f M < M) : ∃ z, z < M ∧ f z = 0 := by
  induction M with
  | zero => omega
  | succ M ih =>
    simp only [cnt] at h
    by_cases e : f M = 0
    · exact ⟨M, by omega, e⟩
    · rw [if_neg e] at h
      obtain ⟨z, h1, h2⟩ := ih (by omega)
      exact ⟨z, by omega, h2⟩
theorem cnt_put {f : Nat → Nat} {M i : Nat} (v : Nat) (hi : i < M) : cnt (put' f i v) M + (if f i = 0 then 0 else 1) = cnt f M + (if v = 0 then 0 else 1) := by
  induction M with
  | zero => omega
  | succ M ih =>
    simp only [cnt]
    by_cases e : i = M
    · subst e
      rw [cnt_congr (f := put' f i v) (g := f) (fun q hq => put_ne f v (by omega)), put_same]
      omega
    · rw [put_ne f v (show M ≠ i by omega)]
      have := ih (by omega)
      omega
theorem cnt_pos {f : Nat → Nat} {M i : Nat} (hi : i < M) (h : f i ≠ 0) : 1 ≤ cnt f M := by
  have := cnt_put (f := f) (v := 0) hi
  simp [h] at this
  omega

/-- what a key's value is, from a place that holds it -/
theorem Ent.at_ {M : Nat} {f D : Nat → Nat} (h : Ent M f D) {i k : Nat} (hi : i < M) (h0 : f i ≠ 0) (hk : f i / 4294967296 = k) : D k = f i % 4294967296 := by
  rw [← hk]; exact (h.val i hi h0).2

/-- on the way of a search for k from its home -/
def Sk (M : Nat) (f : Nat → Nat) (h k i : Nat) : Prop := i < M ∧ ∀ q, q < M → dist M h q < dist M h i → f q ≠ 0 ∧ f q / 4294967296 ≠ k
theorem Sk.start {M : Nat} (f : Nat → Nat) {h : Nat} (k : Nat) (hh : h < M) : Sk M f h k h := ⟨hh, fun q _ hd => by rw [dist_self] at hd; omega⟩
theorem Sk.free_le {M : Nat} {f : Nat → Nat} {h k i z : Nat} (s : Sk M f h k i) (hz : z < M) (h0 : f z = 0) : dist M h i ≤ dist M h z := by
  by_cases e : dist M h z < dist M h i
  · exact absurd h0 (s.2 z hz e).1
  · omega
theorem Sk.step {M : Nat} {f : Nat → Nat} {h k i z : Nat} (s : Sk M f h k i) (hh : h < M) (hz : z < M) (h0 : f z = 0) (h1 : f i ≠ 0) (h2 : f i / 4294967296 ≠ k) : Sk M f h k (nx M i) ∧ dist M (nx M i) z < dist M i z := by
  have hle := s.free_le hz h0
  have hne : i ≠ z := fun e => h1 (e ▸ h0)
  have hlt : dist M h i < dist M h z := by
    rcases Nat.lt_or_eq_of_le hle with h | h
    · exact h
    · exact absurd (dist_inj hh s.1 hz h) hne
  have hd := dist_nx hh s.1 hz hlt
  refine ⟨⟨nx_lt s.1, fun q hq hq' => ?_⟩, dist_down s.1 hz hne⟩
  rw [hd] at hq'
  by_cases e : dist M h q < dist M h i
  · exact s.2 q hq e
  · obtain rfl := dist_inj hh hq s.1 (by omega : dist M h q = dist M h i)
    exact ⟨h1, h2⟩
theorem Sk.none {M : Nat} {hm f D : Nat → Nat} {k i : Nat} (s : Sk M f (hm k) k i) (t : Tbl M hm f D) (hh : hm k < M) (h0 : f i = 0) : D k = 0 := by
  by_cases e : D k = 0
  · exact e
  · obtain ⟨p, p1, p2, p3⟩ := t.has k e
    rcases Nat.lt_trichotomy (dist M (hm k) p) (dist M (hm k) i) with h | h | h
    · exact absurd p3 (s.2 p p1 h).2
    · obtain rfl := dist_inj hh p1 s.1 h
      exact absurd h0 p2
    · exact absurd h0 (t.reach p p1 p2 i s.1 (by rw [p3]; exact h))

/-- a new key goes to the first free place -/
theorem Tbl.put {M : Nat} {hm f D : Nat → Nat} {h k v i : Nat} (t : Tbl M hm f D) (hD : D k = 0) (s : i < M) (s' : ∀ q, q < M → dist M (hm k) q < dist M (hm k) i → f q ≠ 0) (h0 : f i = 0) (hv : v ≠ 0) (hv' : v < 4294967296) :
    Tbl M hm (put' f i (k * 4294967296 + v)) (put' D k v) := by
  have e1 : (k * 4294967296 + v) / 4294967296 = k := by omega
  have e2 : (k * 4294967296 + v) % 4294967296 = v := by omega
  have e3 : k * 4294967296 + v ≠ 0 := by omega
  have hkey : ∀ q, q < M → f q ≠ 0 → f q / 4294967296 ≠ k := fun q hq h1 e => by
    have := t.val q hq h1
    rw [e, hD] at this
    omega
  refine ⟨⟨fun q hq h1 => ?_, fun key hk => ?_, fun a b ha hb h1 h2 h3 => ?_⟩, fun p hp h1 q hq hd => ?_⟩
  · by_cases e : q = i
    · subst e; rw [put_same, e1, e2, put_same]; exact ⟨hv, rfl⟩
    · rw [put_ne _ _ e] at h1 ⊢
      rw [put_ne _ _ (hkey q hq h1)]
      exact t.val q hq h1
  · by_cases e : key = k
    · subst e; exact ⟨i, s, by rw [put_same]; exact e3, by rw [put_same]; exact e1⟩
    · rw [put_ne _ _ e] at hk
      obtain ⟨p, p1, p2, p3⟩ := t.has key hk
      have : p ≠ i := fun e => p2 (e ▸ h0)
      exact ⟨p, p1, by rw [put_ne _ _ this]; exact p2, by rw [put_ne _ _ this]; exact p3⟩
  · by_cases ea : a = i
    · by_cases eb : b = i
      · rw [ea, eb]
      · subst ea
        rw [put_same, e1, put_ne _ _ eb] at h3
        rw [put_ne _ _ eb] at h2
        exact absurd h3.symm (hkey b hb h2)
    · by_cases eb : b = i
      · subst eb
        rw [put_same, e1, put_ne _ _ ea] at h3
        rw [put_ne _ _ ea] at h1
        exact absurd h3 (hkey a ha h1)
      · rw [put_ne _ _ ea] at h1 h3
        rw [put_ne _ _ eb] at h2 h3
        exact t.uni a b ha hb h1 h2 h3
  · by_cases eq : q = i
    · subst eq; rw [put_same]; exact e3
    · rw [put_ne _ _ eq]
      by_cases ep : p = i
      · subst ep
        rw [put_same, e1] at hd
        exact s' q hq hd
      · rw [put_ne _ _ ep] at h1 hd
        exact t.reach p hp h1 q hq hd

/-- a key that is held gets another value -/
theorem Ent.chg {M : Nat} {f D : Nat → Nat} {k v i : Nat} (t : Ent M f D) (hi : i < M) (h0 : f i ≠ 0) (hk : f i / 4294967296 = k) (hv : v ≠ 0) (hv' : v < 4294967296) : Ent M (put' f i (k * 4294967296 + v)) (put' D k v) := by
  have e1 : (k * 4294967296 + v) / 4294967296 = k := by omega
  have e2 : (k * 4294967296 + v) % 4294967296 = v := by omega
  have e3 : k * 4294967296 + v ≠ 0 := by omega
  have hkey : ∀ q, q < M → q ≠ i → f q ≠ 0 → f q / 4294967296 ≠ k := fun q hq hne h1 e => hne (t.uni q i hq hi h1 h0 (by rw [e, hk]))
  refine ⟨fun q hq h1 => ?_, fun key hk' => ?_, fun a b ha hb h1 h2 h3 => ?_⟩
  · by_cases e : q = i
    · subst e; rw [put_same, e1, e2, put_same]; exact ⟨hv, rfl⟩
    · rw [put_ne _ _ e] at h1 ⊢
      rw [put_ne _ _ (hkey q hq e h1)]
      exact t.val q hq h1
  · by_cases e : key = k
    · subst e; exact ⟨i, hi, by rw [put_same]; exact e3, by rw [put_same]; exact e1⟩
    · rw [put_ne _ _ e] at hk'
      obtain ⟨p, p1, p2, p3⟩ := t.has key hk'
      have : p ≠ i := fun e' => e (by rw [← p3, e', hk])
      exact ⟨p, p1, by rw [put_ne _ _ this]; exact p2, by rw [put_ne _ _ this]; exact p3⟩
  · by_cases ea : a = i
    · by_cases eb : b = i
      · rw [ea, eb]
      · subst ea
        rw [put_same, e1, put_ne _ _ eb] at h3
        rw [put_ne _ _ eb] at h2
        exact absurd h3.symm (hkey b hb eb h2)
    · by_cases eb : b = i
      · subst eb
        rw [put_same, e1, put_ne _ _ ea] at h3
        rw [put_ne _ _ ea] at h1
        exact absurd h3 (hkey a ha ea h1)
      · rw [put_ne _ _ ea] at h1 h3
        rw [put_ne _ _ eb] at h2 h3
        exact t.uni a b ha hb h1 h2 h3
theorem Tbl.chg {M : Nat} {hm f D : Nat → Nat} {k v i : Nat} (t : Tbl M hm f D) (hi : i < M) (h0 : f i ≠ 0) (hk : f i / 4294967296 = k) (hv : v ≠ 0) (hv' : v < 4294967296) : Tbl M hm (put' f i (k * 4294967296 + v)) (put' D k v) := by
  have e1 : (k * 4294967296 + v) / 4294967296 = k := by omega
  have e3 : k * 4294967296 + v ≠ 0 := by omega
  refine ⟨t.toEnt.chg hi h0 hk hv hv', fun p hp h1 q hq hd => ?_⟩
  by_cases eq : q = i
  · subst eq; rw [put_same]; exact e3
  · rw [put_ne _ _ eq]
    by_cases ep : p = i
    · subst ep
      rw [put_same, e1, ← hk] at hd
      exact t.reach p hp h0 q hq hd
    · rw [put_ne _ _ ep] at h1 hd
      exact t.reach p hp h1 q hq hd

/-- place i is freed -/
theorem Ent.del {M : Nat} {f D : Nat → Nat} {k i : Nat} (t : Ent M f D) (hi : i < M) (h0 : f i ≠ 0) (hk : f i / 4294967296 = k) : Ent M (put' f i 0) (put' D k 0) := by
  have hkey : ∀ q, q < M → q ≠ i → f q ≠ 0 → f q / 4294967296 ≠ k := fun q hq hne h1 e => hne (t.uni q i hq hi h1 h0 (by rw [e, hk]))
  refine ⟨fun q hq h1 => ?_, fun key hk' => ?_, fun a b ha hb h1 h2 h3 => ?_⟩
  · by_cases e : q = i
    · subst e; rw [put_same] at h1; omega
    · rw [put_ne _ _ e] at h1 ⊢
      rw [put_ne _ _ (hkey q hq e h1)]
      exact t.val q hq h1
  · by_cases e : key = k
    · subst e; rw [put_same] at hk'; omega
    · rw [put_ne _ _ e] at hk'
      obtain ⟨p, p1, p2, p3⟩ := t.has key hk'
      have : p ≠ i := fun e' => e (by rw [← p3, e', hk])
      exact ⟨p, p1, by rw [put_ne _ _ this]; exact p2, by rw [put_ne _ _ this]; exact p3⟩
  · by_cases ea : a = i
    · subst ea; rw [put_same] at h1; omega
    · by_cases eb : b = i
      · subst eb; rw [put_same] at h2; omega
      · rw [put_ne _ _ ea] at h1 h3
        rw [put_ne _ _ eb] at h2 h3
        exact t.uni a b ha hb h1 h2 h3

/-- the entry at j moves to the free place i -/
theorem Ent.move {M : Nat} {f D : Nat → Nat} {i j : Nat} (t : Ent M f D) (hi : i < M) (hj : j < M) (h0 : f i = 0) (h1 : f j ≠ 0) : Ent M (put' (put' f i (f j)) j 0) D := by
  have hij : i ≠ j := fun e => h1 (e ▸ h0)
  have hval : ∀ q, put' (put' f i (f j)) j 0 q = if q = j then 0 else if q = i then f j else f q := fun q => rfl
  have key : ∀ q, q < M → put' (put' f i (f j)) j 0 q ≠ 0 → ∃ p, p < M ∧ f p ≠ 0 ∧ put' (put' f i (f j)) j 0 q = f p ∧ (p = if q = i then j else q) := by
    intro q hq hne
    rw [hval] at hne ⊢
    by_cases e1 : q = j
    · rw [if_pos e1] at hne; omega
    · rw [if_neg e1] at hne ⊢
      by_cases e2 : q = i
      · rw [if_pos e2]; exact ⟨j, hj, h1, rfl, by rw [if_pos e2]⟩
      · rw [if_neg e2] at hne ⊢; exact ⟨q, hq, hne, rfl, by rw [if_neg e2]⟩
  refine ⟨fun q hq hne => ?_, fun k hk => ?_, fun a b ha hb h2 h3 h4 => ?_⟩
  · obtain ⟨p, p1, p2, p3, _⟩ := key q hq hne
    rw [p3]; exact t.val p p1 p2
  · obtain ⟨p, p1, p2, p3⟩ := t.has k hk
    by_cases e : p = j
    · subst e
      exact ⟨i, hi, by rw [hval, if_neg hij, if_pos rfl]; exact p2, by rw [hval, if_neg hij, if_pos rfl]; exact p3⟩
    · have e2 : p ≠ i := fun e => p2 (e ▸ h0)
      exact ⟨p, p1, by rw [hval, if_neg e, if_neg e2]; exact p2, by rw [hval, if_neg e, if_neg e2]; exact p3⟩
  · obtain ⟨p, p1, p2, p3, p4⟩ := key a ha h2
    obtain ⟨r, r1, r2, r3, r4⟩ := key b hb h3
    rw [p3, r3] at h4
    have := t.uni p r p1 r1 p2 r2 h4
    have ea : a ≠ j := fun e => h2 (by rw [hval, if_pos e])
    have eb : b ≠ j := fun e => h3 (by rw [hval, if_pos e])
    rw [p4, r4] at this
    split at this <;> split at this <;> omega

/-- a hole at i, the scan at j, a free place z ahead -/
structure Hole (M : Nat) (hm f D : Nat → Nat) (i j z : Nat) : Prop extends Ent M f D where
  i_lt : i < M
  j_lt : j < M
  z_lt : z < M
  f_i : f i = 0
  f_z : f z = 0
  z_ne : z ≠ i
  one : 1 ≤ dist M i j
  le : dist M i j ≤ dist M i z
  reach : ∀ p, p < M → f p ≠ 0 → ∀ q, q < M → dist M (hm (f p / 4294967296)) q < dist M (hm (f p / 4294967296)) p → f q ≠ 0 ∨ (q = i ∧ dist M i j ≤ dist M i p)

theorem Hole.start {M : Nat} {hm f D : Nat → Nat} {k i z : Nat} (t : Tbl M hm f D) (hi : i < M) (h0 : f i ≠ 0) (hk : f i / 4294967296 = k) (hz : z < M) (hz0 : f z = 0) : Hole M hm (put' f i 0) (put' D k 0) i (nx M i) z := by
  have hzi : z ≠ i := fun e => h0 (e ▸ hz0)
  have h1 : dist M i (nx M i) = 1 := dist_one hi (by omega)
  refine ⟨t.toEnt.del hi h0 hk, hi, nx_lt hi, hz, put_same _ _ _, by rw [put_ne _ _ hzi]; exact hz0, hzi, by omega, by rw [h1]; exact dist_pos hi hz (fun e => hzi e.symm), fun p hp hne q hq hd => ?_⟩
  have hpi : p ≠ i := fun e => hne (by rw [e]; exact put_same _ _ _)
  rw [put_ne _ _ hpi] at hne hd
  by_cases e : q = i
  · exact .inr ⟨e, by rw [h1]; exact dist_pos hi hp (fun e => hpi e.symm)⟩
  · rw [put_ne _ _ e]; exact .inl (t.reach p hp hne q hq hd)

theorem Hole.done {M : Nat} {hm f D : Nat → Nat} {i j z : Nat} (t : Hole M hm f D i j z) (hh : ∀ k, hm k < M) (h0 : f j = 0) : Tbl M hm f D := by
  have hne : j ≠ i := fun e => by have := t.one; rw [e, dist_self] at this; omega
  refine ⟨t.toEnt, fun p hp hp0 q hq hd => ?_⟩
  rcases t.reach p hp hp0 q hq hd with h | ⟨h1, h2⟩
  · exact h
  · subst h1
    have hpj : p ≠ j := fun e => hp0 (e ▸ h0)
    have hlt : dist M q j < dist M q p := by
      rcases Nat.lt_or_eq_of_le h2 with h | h
      · exact h
      · exact absurd (dist_inj hq t.j_lt hp h).symm hpj
    have hd' : dist M (hm (f p / 4294967296)) j < dist M (hm (f p / 4294967296)) p := by
      have hl := hh (f p / 4294967296)
      have hj := t.j_lt
      revert hd hlt
      generalize hm (f p / 4294967296) = h at *
      unfold dist
      split <;> split <;> split <;> split <;> (try split) <;> omega
    rcases t.reach p hp hp0 j t.j_lt hd' with h | ⟨h, _⟩
    · exact absurd h0 h
    · exact absurd h hne

theorem Hole.skip {M : Nat} {hm f D : Nat → Nat} {i j z : Nat} (t : Hole M hm f D i j z) (hh : ∀ k, hm k < M) (h0 : f j ≠ 0) (hlt : dist M (hm (f j / 4294967296)) j < dist M i j) : Hole M hm f D i (nx M j) z ∧ dist M (nx M j) z < dist M j z := by
  have hjz : j ≠ z := fun e => h0 (e ▸ t.f_z)
  have hl : dist M i j < dist M i z := by
    rcases Nat.lt_or_eq_of_le t.le with h | h
    · exact h
    · exact absurd (dist_inj t.i_lt t.j_lt t.z_lt h) hjz
  have hd := dist_nx t.i_lt t.j_lt t.z_lt hl
  refine ⟨⟨t.toEnt, t.i_lt, nx_lt t.j_lt, t.z_lt, t.f_i, t.f_z, t.z_ne, by omega, by omega, fun p hp hp0 q hq hdd => ?_⟩, dist_down t.j_lt t.z_lt hjz⟩
  rcases t.reach p hp hp0 q hq hdd with h | ⟨h1, h2⟩
  · exact .inl h
  · refine .inr ⟨h1, ?_⟩
    subst h1
    have hpj : p ≠ j := fun e => by
      subst e
      have hl := hh (f p / 4294967296)
      revert hdd hlt
      generalize hm (f p / 4294967296) = h at *
      unfold dist
      split <;> split <;> (try split) <;> omega
    have : dist M q p ≠ dist M q j := fun e => hpj (dist_inj hq hp t.j_lt e)
    omega

theorem Hole.shift {M : Nat} {hm f D : Nat → Nat} {i j z : Nat} (t : Hole M hm f D i j z) (hh : ∀ k, hm k < M) (h0 : f j ≠ 0) (hge : ¬ dist M (hm (f j / 4294967296)) j < dist M i j) :
    Hole M hm (put' (put' f i (f j)) j 0) D j (nx M j) z ∧ dist M (nx M j) z < dist M j z := by
  have hjz : j ≠ z := fun e => h0 (e ▸ t.f_z)
  have hij : i ≠ j := fun e => h0 (e ▸ t.f_i)
  have hM : 1 < M := by have := t.i_lt; have := t.j_lt; omega
  have h1 : dist M j (nx M j) = 1 := dist_one t.j_lt hM
  have hval : ∀ q, put' (put' f i (f j)) j 0 q = if q = j then 0 else if q = i then f j else f q := fun q => rfl
  refine ⟨⟨t.toEnt.move t.i_lt t.j_lt t.f_i h0, t.j_lt, nx_lt t.j_lt, t.z_lt, put_same _ _ _, ?_, fun e => hjz e.symm, by omega, by rw [h1]; exact dist_pos t.j_lt t.z_lt hjz, fun p hp hp0 q hq hdd => ?_⟩, dist_down t.j_lt t.z_lt hjz⟩
  · rw [hval, if_neg (fun e => hjz e.symm), if_neg t.z_ne]; exact t.f_z
  · have hpj : p ≠ j := fun e => hp0 (by rw [hval, if_pos e])
    by_cases eqj : q = j
    · exact .inr ⟨eqj, by rw [h1]; exact dist_pos t.j_lt hp (fun e => hpj e.symm)⟩
    refine .inl ?_
    by_cases eqi : q = i
    · rw [hval, if_neg eqj, if_pos eqi]; exact h0
    rw [hval, if_neg eqj, if_neg eqi]
    by_cases epi : p = i
    · rw [hval, if_neg hpj, if_pos epi] at hdd
      subst epi
      have hd' : dist M (hm (f j / 4294967296)) q < dist M (hm (f j / 4294967296)) j := by
        have hl := hh (f j / 4294967296)
        have := t.j_lt
        revert hdd hge
        generalize hm (f j / 4294967296) = h at *
        unfold dist
        split <;> split <;> (try split) <;> (try split) <;> omega
      rcases t.reach j t.j_lt h0 q hq hd' with h | ⟨h, _⟩
      · exact h
      · exact absurd h eqi
    · rw [hval, if_neg hpj, if_neg epi] at hdd hp0
      rcases t.reach p hp hp0 q hq hdd with h | ⟨h, _⟩
      · exact h
      · exact absurd h eqi

/-- the map of the first j places -/
def part (f : Nat → Nat) : Nat → Nat → Nat
  | 0 => fun _ => 0
  | j + 1 => if f j = 0 then part f j else put' (part f j) (f j / 4294967296) (f j % 4294967296)

theorem part_some {f : Nat → Nat} {j k : Nat} (h : part f j k ≠ 0) : ∃ i, i < j ∧ f i ≠ 0 ∧ f i / 4294967296 = k ∧ part f j k = f i % 4294967296 := by
  induction j with
  | zero => simp [part] at h
  | succ j ih =>
    simp only [part] at h ⊢
    by_cases e : f j = 0
    · rw [if_pos e] at h ⊢
      obtain ⟨i, a, b, c, d⟩ := ih h
      exact ⟨i, by omega, b, c, d⟩
    · rw [if_neg e] at h ⊢
      by_cases e2 : k = f j / 4294967296
      · subst e2
        exact ⟨j, by omega, e, rfl, put_same _ _ _⟩
      · rw [put_ne _ _ e2] at h ⊢
        obtain ⟨i, a, b, c, d⟩ := ih h
        exact ⟨i, by omega, b, c, d⟩
theorem Ent.part_new {M : Nat} {f D : Nat → Nat} (t : Ent M f D) {j : Nat} (hj : j < M) (h0 : f j ≠ 0) : part f j (f j / 4294967296) = 0 := by
  by_cases e : part f j (f j / 4294967296) = 0
  · exact e
  · obtain ⟨i, a, b, c, _⟩ := part_some e
    have := t.uni i j (by omega) hj b h0 c
    omega
theorem Ent.part_of {M : Nat} {f D : Nat → Nat} (t : Ent M f D) {i j : Nat} (hj : j ≤ M) (hi : i < j) (h0 : f i ≠ 0) : part f j (f i / 4294967296) = f i % 4294967296 := by
  induction j with
  | zero => omega
  | succ j ih =>
    simp only [part]
    by_cases e : f j = 0
    · rw [if_pos e]
      exact ih (by omega) (by rcases Nat.lt_or_eq_of_le (Nat.le_of_lt_succ hi) with h | h; exact h; exact absurd (h ▸ e) h0)
    · rw [if_neg e]
      by_cases e2 : i = j
      · subst e2; exact put_same _ _ _
      · rw [put_ne _ _ (fun h => e2 (t.uni i j (by omega) (by omega) h0 e h))]
        exact ih (by omega) (by omega)
theorem Ent.part_all {M : Nat} {f D : Nat → Nat} (t : Ent M f D) : part f M = D := by
  funext k
  by_cases e : D k = 0
  · rw [e]
    by_cases e2 : part f M k = 0
    · exact e2
    · obtain ⟨i, a, b, c, d⟩ := part_some e2
      have := t.val i a b
      rw [c, e] at this
      omega
  · obtain ⟨i, a, b, c⟩ := t.has k e
    rw [← c, t.part_of (Nat.le_refl _) a b, (t.val i a b).2]

theorem Tbl.empty (M : Nat) (hm : Nat → Nat) : Tbl M hm (fun _ => 0) (fun _ => 0) :=
  ⟨⟨fun _ _ h => absurd rfl h, fun _ h => absurd rfl h, fun _ _ _ _ h => absurd rfl h⟩, fun _ _ h => absurd rfl h⟩

end Go.Proofs.Qxb6616938a.A
