import Derived.Test.Qxb6608983aTree
namespace Go.Proofs.Qxb6608983a
set_option linter.unusedVariables false
set_option linter.unusedSimpArgs false

/-- Link l joins u to v. -/
def Lk.J (L : Lk) (l u v : Nat) : Prop := l < L.m ∧ L.us l = true ∧ ((L.f l = u ∧ L.g l = v) ∨ (L.g l = u ∧ L.f l = v))
theorem Lk.E_J {L : Lk} {u v : Nat} : L.E u v ↔ ∃ l, L.J l u v := by
  constructor
  · rintro ⟨l, h1, h2, h3⟩; exact ⟨l, h1, h2, h3⟩
  · rintro ⟨l, h1, h2, h3⟩; exact ⟨l, h1, h2, h3⟩
theorem Lk.J_symm {L : Lk} {l u v : Nat} (h : L.J l u v) : L.J l v u := ⟨h.1, h.2.1, h.2.2.elim (fun h => .inr ⟨h.2, h.1⟩) (fun h => .inl ⟨h.2, h.1⟩)⟩
theorem Lk.Esym {L : Lk} : ∀ u v, L.E u v → L.E v u := fun u v h => by
  obtain ⟨l, hl⟩ := Lk.E_J.1 h
  exact Lk.E_J.2 ⟨l, Lk.J_symm hl⟩
theorem Lk.J_ends {L : Lk} {l u v u' v' : Nat} (h : L.J l u v) (h' : L.J l u' v') : (u = u' ∧ v = v') ∨ (u = v' ∧ v = u') := by
  obtain ⟨_, _, h⟩ := h
  obtain ⟨_, _, h'⟩ := h'
  omega

/-- The tree around nought. -/
structure TreeAt (L : Lk) (δ0 : Nat → Int) : Prop where
  fits : ∀ i, i < L.m → L.f i < L.n ∧ L.g i < L.n ∧ L.f i ≠ L.g i
  d0 : IsDist L.E L.n 0 δ0
  count : cnt L.m (fun l => L.us l && decide (0 ≤ δ0 (L.f l))) + 1 = cnt L.n (fun v => decide (0 ≤ δ0 v))

theorem TreeAt.J_lt {L : Lk} {δ0 : Nat → Int} (t : TreeAt L δ0) {l u v : Nat} (h : L.J l u v) : u < L.n ∧ v < L.n ∧ u ≠ v := by
  have := t.fits l h.1
  obtain ⟨_, _, h⟩ := h
  omega

theorem TreeAt.comp {L : Lk} {δ0 : Nat → Int} (t : TreeAt L δ0) {z : Nat} {δ : Nat → Int} (hz : IsDist L.E L.n z δ) (h0 : 0 ≤ δ0 z) : ∀ v, v < L.n → (0 ≤ δ v ↔ 0 ≤ δ0 v) := by
  intro v hv
  constructor
  · intro h; exact (t.d0.tri hz h0 v hv h).1
  · intro h
    have h1 := t.d0.sym_le Lk.Esym z hz.hs h0 δ hz
    exact (hz.tri t.d0 h1.1 v hv h).1

/-- Every link of the tree is the one way up from one of its ends, whichever the root z. -/
theorem TreeAt.up {L : Lk} {δ0 : Nat → Int} (t : TreeAt L δ0) {z : Nat} {δ : Nat → Int} (hz : IsDist L.E L.n z δ) (h0 : 0 ≤ δ0 z) :
    ∃ π : Nat → Nat, ∀ l u v, L.J l u v → 0 ≤ δ0 u → (δ u + 1 = δ v ∧ π v = l) ∨ (δ v + 1 = δ u ∧ π u = l) := by
  have hpar : ∀ v, ∃ x : Nat × Nat, (v < L.n ∧ 0 ≤ δ v ∧ v ≠ z) → L.J x.1 x.2 v ∧ 0 ≤ δ x.2 ∧ δ v = δ x.2 + 1 := by
    intro v
    by_cases h : v < L.n ∧ 0 ≤ δ v ∧ v ≠ z
    · obtain ⟨u, hu, hE, g0, g1⟩ := hz.par v h.1 h.2.1 h.2.2
      obtain ⟨l, hl⟩ := Lk.E_J.1 hE
      exact ⟨(l, u), fun _ => ⟨hl, g0, g1⟩⟩
    · exact ⟨(0, 0), fun h' => absurd h' h⟩
  obtain ⟨F, hF⟩ := choice hpar
  have hcomp := t.comp hz h0
  have onto := cnt_onto (n := L.n) (m := L.m) (p := fun v => decide (0 ≤ δ0 v) && !(v == z)) (r := fun l => L.us l && decide (0 ≤ δ0 (L.f l))) (fun v => (F v).1) (by
    intro x hx hp
    simp at hp
    obtain ⟨hJ, g0, g1⟩ := hF x ⟨hx, (hcomp x hx).2 hp.1, hp.2⟩
    refine ⟨hJ.1, ?_⟩
    have hl := t.J_lt hJ
    have hf : 0 ≤ δ0 (L.f (F x).1) := by
      rcases hJ.2.2 with ⟨h1, h2⟩ | ⟨h1, h2⟩
      · rw [h1]; exact (hcomp _ hl.1).1 g0
      · rw [h2]; exact hp.1
    simp [hJ.2.1, hf]) (by
    intro x y hx hy hpx hpy e
    simp at hpx hpy
    obtain ⟨hJ, g0, g1⟩ := hF x ⟨hx, (hcomp x hx).2 hpx.1, hpx.2⟩
    obtain ⟨hJ', g0', g1'⟩ := hF y ⟨hy, (hcomp y hy).2 hpy.1, hpy.2⟩
    have e' : (F x).1 = (F y).1 := e
    rw [← e'] at hJ'
    rcases Lk.J_ends hJ hJ' with ⟨_, h⟩ | ⟨h1, h2⟩
    · exact h
    · rw [h1] at g1; rw [← h2] at g1'; omega) (by
    have h1 := t.count
    have h2 := cnt_but (n := L.n) (p := fun v => decide (0 ≤ δ0 v)) hz.hs (by simpa using h0)
    omega)
  refine ⟨fun v => (F v).1, ?_⟩
  intro l u v hJ hu0
  have hl := t.J_lt hJ
  have hv0 : 0 ≤ δ0 v := (t.d0.edge u v hl.1 hl.2.1 (Lk.E_J.2 ⟨l, hJ⟩) hu0).1
  have hf : 0 ≤ δ0 (L.f l) := by
    rcases hJ.2.2 with ⟨h1, h2⟩ | ⟨h1, h2⟩
    · rw [h1]; exact hu0
    · rw [h2]; exact hv0
  obtain ⟨x, hx, hp, hxl⟩ := onto l hJ.1 (by simp [hJ.2.1, hf])
  simp at hp
  obtain ⟨hJ', g0, g1⟩ := hF x ⟨hx, (hcomp x hx).2 hp.1, hp.2⟩
  have hxl' : (F x).1 = l := hxl
  rw [hxl'] at hJ'
  rcases Lk.J_ends hJ hJ' with ⟨h1, h2⟩ | ⟨h1, h2⟩
  · left
    rw [h1, h2]
    exact ⟨by omega, hxl⟩
  · right
    rw [h1, h2]
    exact ⟨by omega, hxl⟩

/-! ### Peeling -/

def degA (L : Lk) (A : Nat → Bool) (v : Nat) : Nat := cnt L.m (fun l => L.us l && A (L.f l) && A (L.g l) && (L.f l == v || L.g l == v))
/-- Who is left after r rounds. -/
def left (L : Lk) (δ0 : Nat → Int) : Nat → Nat → Bool
  | 0, v => decide (0 ≤ δ0 v)
  | r + 1, v => left L δ0 r v && decide (2 ≤ degA L (left L δ0 r) v)

theorem left_tree {L : Lk} {δ0 : Nat → Int} : ∀ (r v : Nat), left L δ0 r v = true → 0 ≤ δ0 v := by
  intro r
  induction r with
  | zero => intro v h; simpa [left] using h
  | succ r ih => intro v h; simp [left] at h; exact ih v h.1

/-- A link within A at v leads from v to another one of A. -/
theorem deg_link {L : Lk} {A : Nat → Bool} {v l : Nat} (hl : l < L.m) (h : (L.us l && A (L.f l) && A (L.g l) && (L.f l == v || L.g l == v)) = true) : ∃ o, L.J l o v ∧ A o = true := by
  simp at h
  obtain ⟨⟨⟨h1, h2⟩, h3⟩, h4⟩ := h
  rcases h4 with h4 | h4
  · exact ⟨L.g l, ⟨hl, h1, .inr ⟨rfl, h4⟩⟩, h3⟩
  · exact ⟨L.f l, ⟨hl, h1, .inl ⟨rfl, h4⟩⟩, h2⟩
theorem link_deg {L : Lk} {A : Nat → Bool} {v o l : Nat} (h : L.J l o v) (ho : A o = true) (hv : A v = true) : (L.us l && A (L.f l) && A (L.g l) && (L.f l == v || L.g l == v)) = true := by
  obtain ⟨_, h1, h2⟩ := h
  rcases h2 with ⟨rfl, rfl⟩ | ⟨rfl, rfl⟩ <;> simp [h1, ho, hv]

/-- Whoever is left after r rounds has a way of r steps away from any root. -/
theorem TreeAt.ext {L : Lk} {δ0 : Nat → Int} (t : TreeAt L δ0) {z : Nat} {δ : Nat → Int} (hz : IsDist L.E L.n z δ) (h0 : 0 ≤ δ0 z) :
    ∀ (r x : Nat), x < L.n → left L δ0 r x = true → x ≠ z → ∃ y, y < L.n ∧ 0 ≤ δ y ∧ δ y = δ x + r := by
  obtain ⟨π, hπ⟩ := t.up hz h0
  have hcomp := t.comp hz h0
  intro r
  induction r with
  | zero =>
    intro x hx hA _
    exact ⟨x, hx, (hcomp x hx).2 (left_tree 0 x hA), by omega⟩
  | succ r ih =>
    intro x hx hA hxz
    simp [left] at hA
    obtain ⟨hA, hdeg⟩ := hA
    obtain ⟨i, j, hi, hj, hij, pi, pj⟩ := cnt_two.1 hdeg
    obtain ⟨oi, Ji, Ai⟩ := deg_link hi pi
    obtain ⟨oj, Jj, Aj⟩ := deg_link hj pj
    have step : ∀ l o, L.J l o x → left L δ0 r o = true → δ x + 1 = δ o → ∃ y, y < L.n ∧ 0 ≤ δ y ∧ δ y = δ x + (r + 1 : Nat) := by
      intro l o hJ hAo hd
      have ho := (t.J_lt hJ).1
      have hx0 := (hcomp x hx).2 (left_tree r x hA)
      obtain ⟨y, hy, hy0, hyd⟩ := ih o ho hAo (fun e => by subst e; rw [hz.zero] at hd; omega)
      exact ⟨y, hy, hy0, by omega⟩
    rcases hπ i oi x Ji (left_tree r oi Ai) with ⟨h1, h2⟩ | ⟨h1, h2⟩
    · rcases hπ j oj x Jj (left_tree r oj Aj) with ⟨h3, h4⟩ | ⟨h3, h4⟩
      · exact absurd (h2.symm.trans h4) hij
      · exact step j oj Jj Aj h3
    · exact step i oi Ji Ai h1

/-- In a tree each step turns the parity. -/
theorem TreeAt.parity {L : Lk} {δ0 : Nat → Int} (t : TreeAt L δ0) {u : Nat} {δ : Nat → Int} (hz : IsDist L.E L.n u δ) (h0 : 0 ≤ δ0 u) : ∀ (k x : Nat), x < L.n → δ x = k → (δ0 x + δ x - δ0 u) % 2 = 0 := by
  obtain ⟨π, hπ⟩ := t.up t.d0 (by rw [t.d0.zero]; omega)
  have hcomp := t.comp hz h0
  intro k
  induction k with
  | zero =>
    intro x hx hk
    by_cases e : x = u
    · subst e; rw [hz.zero]; omega
    · obtain ⟨v, _, _, g0, g1⟩ := hz.par x hx (by omega) e
      omega
  | succ k ih =>
    intro x hx hk
    have e : x ≠ u := by intro e; subst e; rw [hz.zero] at hk; omega
    obtain ⟨v, hv, hE, g0, g1⟩ := hz.par x hx (by omega) e
    have := ih v hv (by omega)
    obtain ⟨l, hl⟩ := Lk.E_J.1 hE
    rcases hπ l v x hl ((hcomp v hv).1 g0) with ⟨h1, _⟩ | ⟨h1, _⟩ <;> omega

theorem IsDist.eq_of_zero {E : Nat → Nat → Prop} {n s : Nat} {d : Nat → Int} (h : IsDist E n s d) {v : Nat} (hv : v < n) (h0 : d v = 0) : v = s := by
  by_cases e : v = s
  · exact e
  · obtain ⟨u, _, _, g0, g1⟩ := h.par v hv (by omega) e
    omega

/-- On the way from nought to w, one only at each distance from w. -/
theorem TreeAt.geo {L : Lk} {δ0 : Nat → Int} (t : TreeAt L δ0) : ∀ (k w : Nat) (δ : Nat → Int), IsDist L.E L.n w δ → 0 ≤ δ0 w → ∀ x y, x < L.n → y < L.n → δ x = k → δ y = k → δ0 x + δ x = δ0 w → δ0 y + δ y = δ0 w → 0 ≤ δ0 x → 0 ≤ δ0 y → x = y := by
  obtain ⟨π, hπ⟩ := t.up t.d0 (by rw [t.d0.zero]; omega)
  intro k
  induction k with
  | zero =>
    intro w δ hd hw x y hx hy ex ey _ _ _ _
    rw [hd.eq_of_zero hx (by omega), hd.eq_of_zero hy (by omega)]
  | succ k ih =>
    intro w δ hd hw x y hx hy ex ey gx gy x0 y0
    -- the first step from w towards x is the one way up
    have first : ∀ x, x < L.n → δ x = (k + 1 : Nat) → δ0 x + δ x = δ0 w → 0 ≤ δ0 x → ∃ w', w' < L.n ∧ L.J (π w) w' w ∧ δ0 w' + 1 = δ0 w ∧ 0 ≤ δ0 w' ∧ ∀ δ', IsDist L.E L.n w' δ' → δ' x = k := by
      intro x hx ex gx x0
      obtain ⟨dx, hdx⟩ := dist_exists L.E L.n x hx
      have hs : dx w = δ x := hd.sym hdx Lk.Esym (by omega)
      have hwx : w ≠ x := by intro e; subst e; rw [hd.zero] at ex; omega
      obtain ⟨w', hw', hE, g0, g1⟩ := hdx.par w hd.hs (by omega) hwx
      have h1 := (t.d0.tri hdx x0 w' hw' g0)
      have h2 := t.d0.edge w' w hw' hd.hs hE h1.1
      obtain ⟨l, hl⟩ := Lk.E_J.1 hE
      rcases hπ l w' w hl h1.1 with ⟨h3, h4⟩ | ⟨h3, _⟩
      · refine ⟨w', hw', by rw [h4]; exact hl, h3, h1.1, ?_⟩
        intro δ' hδ'
        have := hdx.sym hδ' Lk.Esym g0
        omega
      · omega
    obtain ⟨w1, hw1, J1, e1, p1, q1⟩ := first x hx ex gx x0
    obtain ⟨w2, hw2, J2, e2, p2, q2⟩ := first y hy ey gy y0
    have : w1 = w2 := by
      rcases Lk.J_ends J1 J2 with ⟨h, _⟩ | ⟨h1, h2⟩
      · exact h
      · exact h1.trans h2
    subst this
    obtain ⟨d1, hd1⟩ := dist_exists L.E L.n w1 hw1
    have a1 := q1 d1 hd1
    have a2 := q2 d1 hd1
    exact ih w1 d1 hd1 p1 x y hx hy a1 a2 (by omega) (by omega) x0 y0

end Go.Proofs.Qxb6608983a
