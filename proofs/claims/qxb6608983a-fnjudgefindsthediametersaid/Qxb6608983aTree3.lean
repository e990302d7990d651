import Derived.Test.Qxb6608983aTree2
namespace Go.Proofs.Qxb6608983a
set_option linter.unusedVariables false
set_option linter.unusedSimpArgs false

/-- Who is left after half as many rounds as the way is long lies on the way from nought to u, at the middle's distance from u. -/
theorem TreeAt.mid {L : Lk} {δ0 : Nat → Int} (t : TreeAt L δ0) {u m0 h : Nat} {δ : Nat → Int} (hu : IsDist L.E L.n u δ) (hu0 : 0 ≤ δ0 u) (hmax : ∀ v, v < L.n → 0 ≤ δ0 v → δ0 v ≤ δ0 u)
    (hm : m0 < L.n) (hm0 : 0 ≤ δ m0) (hmaxu : ∀ v, v < L.n → 0 ≤ δ v → δ v ≤ δ m0) (hh : h = (δ m0 / 2).toNat) :
    ∀ x, x < L.n → left L δ0 h x = true → δ0 x + δ x = δ0 u ∧ (δ x = h ∨ δ x = h + 1) := by
  have hz0 : δ0 0 = 0 := t.d0.zero
  have hs0 : δ 0 = δ0 u := t.d0.sym hu Lk.Esym hu0
  have hcomp := t.comp hu hu0
  have hb : δ m0 ≤ 2 * δ0 u := by
    have h1 := hu.tri t.d0 (by omega) m0 hm ((hcomp m0 hm).1 hm0)
    have h2 := hmax m0 hm ((hcomp m0 hm).1 hm0)
    omega
  intro x hx hA
  have hx0 := left_tree h x hA
  have hxu : 0 ≤ δ x := (hcomp x hx).2 hx0
  have up1 : x ≠ u → δ x + h ≤ δ m0 := by
    intro e
    obtain ⟨y, hy, hy0, hyd⟩ := t.ext hu hu0 h x hx hA e
    have := hmaxu y hy hy0
    omega
  have up0 : x ≠ 0 → δ0 x + h ≤ δ0 u := by
    intro e
    obtain ⟨y, hy, hy0, hyd⟩ := t.ext t.d0 (by omega) h x hx hA e
    have := hmax y hy hy0
    omega
  have htri : δ0 u ≤ δ0 x + δ x := by
    obtain ⟨dx, hdx⟩ := dist_exists L.E L.n x hx
    have h1 := hu.sym hdx Lk.Esym hxu
    have h2 := t.d0.tri hdx hx0 u hu.hs (by omega)
    omega
  have hpar := t.parity hu hu0 (δ x).toNat x hx (by omega)
  by_cases e1 : x = u
  · subst e1
    rw [hu.zero] at htri ⊢
    by_cases e2 : x = 0
    · subst e2; omega
    · have := up0 e2
      omega
  · have a1 := up1 e1
    by_cases e2 : x = 0
    · subst e2; omega
    · have a2 := up0 e2
      omega

theorem TreeAt.few {L : Lk} {δ0 : Nat → Int} (t : TreeAt L δ0) {u m0 h : Nat} {δ : Nat → Int} (hu : IsDist L.E L.n u δ) (hu0 : 0 ≤ δ0 u) (hmax : ∀ v, v < L.n → 0 ≤ δ0 v → δ0 v ≤ δ0 u)
    (hm : m0 < L.n) (hm0 : 0 ≤ δ m0) (hmaxu : ∀ v, v < L.n → 0 ≤ δ v → δ v ≤ δ m0) (hh : h = (δ m0 / 2).toNat) : cnt L.n (left L δ0 h) ≤ 2 := by
  have hmid := t.mid hu hu0 hmax hm hm0 hmaxu hh
  obtain ⟨e, e1, e2, _⟩ := cnt_enum L.n (left L δ0 h)
  have same : ∀ i j, i < cnt L.n (left L δ0 h) → j < cnt L.n (left L δ0 h) → δ (e i) = δ (e j) → i = j := by
    intro i j hi hj hij
    have mi := hmid _ (e1 i hi).1 (e1 i hi).2
    have mj := hmid _ (e1 j hj).1 (e1 j hj).2
    refine e2 i j hi hj ?_
    exact t.geo (δ (e i)).toNat u δ hu hu0 (e i) (e j) (e1 i hi).1 (e1 j hj).1 (by omega) (by omega) mi.1 mj.1 (left_tree _ _ (e1 i hi).2) (left_tree _ _ (e1 j hj).2)
  rcases Nat.lt_or_ge (cnt L.n (left L δ0 h)) 3 with h3 | h3
  · omega
  · have m0' := (hmid _ (e1 0 (by omega)).1 (e1 0 (by omega)).2).2
    have m1' := (hmid _ (e1 1 (by omega)).1 (e1 1 (by omega)).2).2
    have m2' := (hmid _ (e1 2 (by omega)).1 (e1 2 (by omega)).2).2
    have s01 := same 0 1 (by omega) (by omega)
    have s02 := same 0 2 (by omega) (by omega)
    have s12 := same 1 2 (by omega) (by omega)
    omega

/-- A way down from v to the root. -/
theorem IsDist.path {E : Nat → Nat → Prop} {n u : Nat} {δ : Nat → Int} (hu : IsDist E n u δ) : ∀ (k v : Nat), v < n → δ v = k → ∃ R : Nat → Nat, R 0 = v ∧ (∀ i, i ≤ k → R i < n ∧ δ (R i) = k - i) ∧ ∀ i, i < k → E (R (i + 1)) (R i) := by
  intro k
  induction k with
  | zero => intro v hv hk; exact ⟨fun _ => v, rfl, fun i hi => ⟨hv, by show δ v = _; omega⟩, fun i hi => by omega⟩
  | succ k ih =>
    intro v hv hk
    have e : v ≠ u := by intro e; subst e; rw [hu.zero] at hk; omega
    obtain ⟨p, hp, hE, g0, g1⟩ := hu.par v hv (by omega) e
    obtain ⟨R, h1, h2, h3⟩ := ih p hp (by omega)
    refine ⟨fun i => if i = 0 then v else R (i - 1), by simp, ?_, ?_⟩
    · intro i hi
      by_cases ei : i = 0
      · subst ei; simp only [if_true]; exact ⟨hv, by omega⟩
      · simp only [ei, if_false]
        have := h2 (i - 1) (by omega)
        exact ⟨this.1, by omega⟩
    · intro i hi
      by_cases ei : i = 0
      · subst ei
        simp only [if_true, Nat.zero_add, Nat.one_ne_zero, if_false, Nat.sub_self]
        rw [h1]; exact hE
      · have e1 : i + 1 ≠ 0 := by omega
        simp only [ei, e1, if_false]
        have := h3 (i - 1) (by omega)
        rw [show i - 1 + 1 = i + 1 - 1 by omega] at this
        exact this

/-- A way of K steps whose places have the distances K, K - 1, .. from a root: what lies r steps or more from both ends is left after r rounds. -/
theorem TreeAt.stays {L : Lk} {δ0 : Nat → Int} (t : TreeAt L δ0) {u : Nat} {δ : Nat → Int} (hu : IsDist L.E L.n u δ) (hu0 : 0 ≤ δ0 u) {K : Nat} {P : Nat → Nat}
    (hP : ∀ j, j ≤ K → P j < L.n ∧ δ (P j) = K - j) (hE : ∀ j, j < K → L.E (P (j + 1)) (P j)) : ∀ r j, r ≤ j → j + r ≤ K → left L δ0 r (P j) = true := by
  have hcomp := t.comp hu hu0
  intro r
  induction r with
  | zero =>
    intro j _ hj
    have := hP j (by omega)
    have := (hcomp _ this.1).1 (by omega)
    simpa [left] using this
  | succ r ih =>
    intro j hj1 hj2
    have a0 := ih j (by omega) (by omega)
    have a1 := ih (j - 1) (by omega) (by omega)
    have a2 := ih (j + 1) (by omega) (by omega)
    obtain ⟨l1, J1⟩ := Lk.E_J.1 (hE (j - 1) (by omega))
    rw [show j - 1 + 1 = j by omega] at J1
    obtain ⟨l2, J2⟩ := Lk.E_J.1 (hE j (by omega))
    have hdeg : 2 ≤ degA L (left L δ0 r) (P j) := by
      refine cnt_two.2 ⟨l1, l2, J1.1, J2.1, ?_, link_deg (Lk.J_symm J1) a1 a0, link_deg J2 a2 a0⟩
      intro e
      subst e
      have p0 := (hP j (by omega)).2
      have p1 := (hP (j - 1) (by omega)).2
      have p2 := (hP (j + 1) (by omega)).2
      rcases Lk.J_ends J1 J2 with ⟨h1, h2⟩ | ⟨h1, h2⟩
      · rw [h1] at p0; omega
      · rw [h2] at p1; omega
    simp [left, a0, hdeg]

end Go.Proofs.Qxb6608983a
