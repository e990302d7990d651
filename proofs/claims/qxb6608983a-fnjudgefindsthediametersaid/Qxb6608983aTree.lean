import Derived.Test.Qxb6608983aUse
namespace Go.Proofs.Qxb6608983a
set_option linter.unusedVariables false
set_option linter.unusedSimpArgs false

/-! ### Counting -/

/-- How many of the first n bear p. -/
def cnt : Nat → (Nat → Bool) → Nat
  | 0, _ => 0
  | n + 1, p => cnt n p + if p n then 1 else 0

theorem cnt_le (n : Nat) (p : Nat → Bool) : cnt n p ≤ n := by
  induction n with
  | zero => simp [cnt]
  | succ n ih => simp only [cnt]; split <;> omega

theorem cnt_congr {n : Nat} {p r : Nat → Bool} (h : ∀ i, i < n → p i = r i) : cnt n p = cnt n r := by
  induction n with
  | zero => rfl
  | succ n ih =>
    simp only [cnt]
    rw [ih (fun i hi => h i (by omega)), h n (by omega)]

/-- Those that bear p, one after the other. -/
theorem cnt_enum (n : Nat) (p : Nat → Bool) : ∃ e : Nat → Nat, (∀ i, i < cnt n p → e i < n ∧ p (e i) = true) ∧ (∀ i j, i < cnt n p → j < cnt n p → e i = e j → i = j) ∧ (∀ x, x < n → p x = true → ∃ i, i < cnt n p ∧ e i = x) := by
  induction n with
  | zero => exact ⟨fun _ => 0, fun i hi => by simp [cnt] at hi, fun i j hi => by simp [cnt] at hi, fun x hx => by omega⟩
  | succ n ih =>
    obtain ⟨e, h1, h2, h3⟩ := ih
    by_cases hp : p n = true
    · have hc : cnt (n + 1) p = cnt n p + 1 := by simp [cnt, hp]
      rw [hc]
      refine ⟨upd e (cnt n p) n, ?_, ?_, ?_⟩
      · intro i hi
        by_cases ei : i = cnt n p
        · subst ei; rw [upd_same]; exact ⟨by omega, hp⟩
        · rw [upd_ne _ _ _ _ ei]
          have := h1 i (by omega)
          exact ⟨by omega, this.2⟩
      · intro i j hi hj hij
        by_cases ei : i = cnt n p <;> by_cases ej : j = cnt n p
        · omega
        · subst ei
          rw [upd_same, upd_ne _ _ _ _ ej] at hij
          have := (h1 j (by omega)).1
          omega
        · subst ej
          rw [upd_same, upd_ne _ _ _ _ ei] at hij
          have := (h1 i (by omega)).1
          omega
        · rw [upd_ne _ _ _ _ ei, upd_ne _ _ _ _ ej] at hij
          exact h2 i j (by omega) (by omega) hij
      · intro x hx hpx
        by_cases ex : x = n
        · subst ex; exact ⟨cnt x p, by omega, upd_same _ _ _⟩
        · obtain ⟨i, hi, he⟩ := h3 x (by omega) hpx
          exact ⟨i, by omega, by rw [upd_ne _ _ _ _ (by omega)]; exact he⟩
    · have hc : cnt (n + 1) p = cnt n p := by simp [cnt, hp]
      rw [hc]
      refine ⟨e, fun i hi => ⟨by have := (h1 i hi).1; omega, (h1 i hi).2⟩, h2, ?_⟩
      intro x hx hpx
      by_cases ex : x = n
      · subst ex; exact absurd hpx hp
      · exact h3 x (by omega) hpx

/-- As many as k different ones are there. -/
theorem le_cnt {n k : Nat} {p : Nat → Bool} (f : Nat → Nat) (h1 : ∀ i, i < k → f i < n ∧ p (f i) = true) (h2 : ∀ i j, i < k → j < k → f i = f j → i = j) : k ≤ cnt n p := by
  obtain ⟨e, e1, e2, e3⟩ := cnt_enum n p
  have hix : ∀ i, ∃ j, i < k → j < cnt n p ∧ e j = f i := by
    intro i
    by_cases hi : i < k
    · obtain ⟨j, hj⟩ := e3 (f i) (h1 i hi).1 (h1 i hi).2
      exact ⟨j, fun _ => hj⟩
    · exact ⟨0, fun h => absurd h hi⟩
  obtain ⟨ix, hx⟩ := choice hix
  exact pigeon _ k ix (fun i hi => (hx i hi).1) (fun i j hi hj e => h2 i j hi hj (by rw [← (hx i hi).2, ← (hx j hj).2, e]))

/-- Two different ones. -/
theorem cnt_two {n : Nat} {p : Nat → Bool} : 2 ≤ cnt n p ↔ ∃ i j, i < n ∧ j < n ∧ i ≠ j ∧ p i = true ∧ p j = true := by
  constructor
  · intro h
    obtain ⟨e, e1, e2, _⟩ := cnt_enum n p
    refine ⟨e 0, e 1, (e1 0 (by omega)).1, (e1 1 (by omega)).1, fun he => ?_, (e1 0 (by omega)).2, (e1 1 (by omega)).2⟩
    have := e2 0 1 (by omega) (by omega) he
    omega
  · rintro ⟨i, j, hi, hj, hij, pi, pj⟩
    refine le_cnt (fun k => if k = 0 then i else j) ?_ ?_
    · intro k hk
      by_cases e : k = 0
      · simp only [e, if_true]; exact ⟨hi, pi⟩
      · simp only [e, if_false]; exact ⟨hj, pj⟩
    · intro k k' hk hk' e
      by_cases e1 : k = 0 <;> by_cases e2 : k' = 0 <;> simp only [e1, e2, if_true, if_false] at e
      · omega
      · exact absurd e hij
      · exact absurd e.symm hij
      · omega

/-- An injection between two sets of one size meets every one. -/
theorem cnt_onto {n m : Nat} {p r : Nat → Bool} (π : Nat → Nat) (h1 : ∀ x, x < n → p x = true → π x < m ∧ r (π x) = true) (h2 : ∀ x y, x < n → y < n → p x = true → p y = true → π x = π y → x = y)
    (hc : cnt m r ≤ cnt n p) : ∀ y, y < m → r y = true → ∃ x, x < n ∧ p x = true ∧ π x = y := by
  intro y hy hr
  by_cases hno : ∃ x, x < n ∧ p x = true ∧ π x = y
  · exact hno
  · obtain ⟨e, e1, e2, _⟩ := cnt_enum n p
    have := le_cnt (n := m) (p := r) (k := cnt n p + 1) (fun i => if i = cnt n p then y else π (e i)) (by
      intro i hi
      by_cases ei : i = cnt n p
      · simp only [ei, if_true]; exact ⟨hy, hr⟩
      · simp only [ei, if_false]; exact h1 _ (e1 i (by omega)).1 (e1 i (by omega)).2) (by
      intro i j hi hj hij
      by_cases ei : i = cnt n p <;> by_cases ej : j = cnt n p <;> simp only [ei, ej, if_true, if_false] at hij
      · omega
      · exact absurd ⟨e j, (e1 j (by omega)).1, (e1 j (by omega)).2, hij.symm⟩ hno
      · exact absurd ⟨e i, (e1 i (by omega)).1, (e1 i (by omega)).2, hij⟩ hno
      · exact e2 i j (by omega) (by omega) (h2 _ _ (e1 i (by omega)).1 (e1 j (by omega)).1 (e1 i (by omega)).2 (e1 j (by omega)).2 hij))
    omega

/-- One that bears p left out. -/
theorem cnt_but {n : Nat} {p : Nat → Bool} {s : Nat} (hs : s < n) (hp : p s = true) : cnt n p ≤ cnt n (fun v => p v && !(v == s)) + 1 := by
  obtain ⟨e, e1, e2, e3⟩ := cnt_enum n p
  obtain ⟨i0, hi0, he0⟩ := e3 s hs hp
  have := le_cnt (n := n) (p := fun v => p v && !(v == s)) (k := cnt n p - 1) (fun i => if i < i0 then e i else e (i + 1)) (by
    intro i hi
    by_cases h : i < i0
    · simp only [h, if_true]
      refine ⟨(e1 i (by omega)).1, ?_⟩
      have hne : e i ≠ s := fun h' => by have := e2 i i0 (by omega) hi0 (by rw [h', he0]); omega
      simp [(e1 i (by omega)).2, hne]
    · simp only [h, if_false]
      refine ⟨(e1 (i + 1) (by omega)).1, ?_⟩
      have hne : e (i + 1) ≠ s := fun h' => by have := e2 (i + 1) i0 (by omega) hi0 (by rw [h', he0]); omega
      simp [(e1 (i + 1) (by omega)).2, hne]) (by
    intro i j hi hj hij
    by_cases hi' : i < i0 <;> by_cases hj' : j < i0 <;> simp only [hi', hj', if_true, if_false] at hij
    · exact e2 i j (by omega) (by omega) hij
    · have := e2 i (j + 1) (by omega) (by omega) hij; omega
    · have := e2 (i + 1) j (by omega) (by omega) hij; omega
    · have := e2 (i + 1) (j + 1) (by omega) (by omega) hij; omega)
  omega

/-! ### Distances in general -/

theorem IsDist.tri {E : Nat → Nat → Prop} {n a b : Nat} {da db : Nat → Int} (ha : IsDist E n a da) (hb : IsDist E n b db) (h0 : 0 ≤ da b) : ∀ x, x < n → 0 ≤ db x → 0 ≤ da x ∧ da x ≤ da b + db x := by
  have ind : ∀ (k x : Nat), x < n → db x = k → 0 ≤ da x ∧ da x ≤ da b + db x := by
    intro k
    induction k with
    | zero =>
      intro x hx hk
      by_cases e : x = b
      · subst e; omega
      · obtain ⟨u, _, _, g0, g1⟩ := hb.par x hx (by omega) e
        omega
    | succ k ih =>
      intro x hx hk
      by_cases e : x = b
      · subst e; rw [hb.zero] at hk; omega
      · obtain ⟨u, hu, hE, g0, g1⟩ := hb.par x hx (by omega) e
        obtain ⟨i1, i2⟩ := ih u hu (by omega)
        have := ha.edge u x hu hx hE i1
        omega
  intro x hx h
  exact ind (db x).toNat x hx (by omega)

theorem IsDist.sym_le {E : Nat → Nat → Prop} {n a : Nat} {da : Nat → Int} (ha : IsDist E n a da) (hsym : ∀ u v, E u v → E v u) : ∀ v, v < n → 0 ≤ da v → ∀ dv, IsDist E n v dv → 0 ≤ dv a ∧ dv a ≤ da v := by
  have ind : ∀ (k v : Nat), v < n → da v = k → ∀ dv, IsDist E n v dv → 0 ≤ dv a ∧ dv a ≤ da v := by
    intro k
    induction k with
    | zero =>
      intro v hv hk dv hdv
      by_cases e : v = a
      · subst e; rw [hdv.zero]; omega
      · obtain ⟨u, _, _, g0, g1⟩ := ha.par v hv (by omega) e
        omega
    | succ k ih =>
      intro v hv hk dv hdv
      have e : v ≠ a := by intro e; subst e; rw [ha.zero] at hk; omega
      obtain ⟨u, hu, hE, g0, g1⟩ := ha.par v hv (by omega) e
      obtain ⟨du, hdu⟩ := dist_exists E n u hu
      obtain ⟨i1, i2⟩ := ih u hu (by omega) du hdu
      have h2 := hdv.edge v u hv hu (hsym _ _ hE) (by rw [hdv.zero]; omega)
      rw [hdv.zero] at h2
      have := hdv.tri hdu h2.1 a ha.hs i1
      omega
  intro v hv h
  exact ind (da v).toNat v hv (by omega)

theorem IsDist.sym {E : Nat → Nat → Prop} {n a b : Nat} {da db : Nat → Int} (ha : IsDist E n a da) (hb : IsDist E n b db) (hsym : ∀ u v, E u v → E v u) (h0 : 0 ≤ da b) : db a = da b := by
  obtain ⟨h1, h2⟩ := ha.sym_le hsym b hb.hs h0 db hb
  obtain ⟨h3, h4⟩ := hb.sym_le hsym a ha.hs h1 da ha
  omega

end Go.Proofs.Qxb6608983a
