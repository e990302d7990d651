import Derived.Test.Qxb6608983aTree4
import Derived.Test.Qxb6608983aLaw1b
namespace Go.Proofs.Qxb6608983a
set_option linter.unusedVariables false
set_option linter.unusedSimpArgs false

/-! ### All pairs -/

/-- A walk from i to j of length l, whose stops under way are among the first K. -/
def Pw (E : Nat → Nat → Prop) : Nat → Nat → Nat → Nat → Prop
  | 0, i, j, l => (i = j ∧ l = 0) ∨ (E i j ∧ l = 1)
  | K + 1, i, j, l => Pw E K i j l ∨ ∃ a b, Pw E K i K a ∧ Pw E K K j b ∧ l = a + b

theorem Pw.up {E : Nat → Nat → Prop} {K i j l : Nat} (h : Pw E K i j l) : Pw E (K + 1) i j l := .inl h
theorem Pw.ofZero {E : Nat → Nat → Prop} {i j l : Nat} (h : Pw E 0 i j l) : ∀ K, Pw E K i j l := by
  intro K
  induction K with
  | zero => exact h
  | succ K ih => exact .inl ih

theorem Pw.cat {E : Nat → Nat → Prop} : ∀ (K i m j a b : Nat), m < K → Pw E K i m a → Pw E K m j b → ∃ l, l ≤ a + b ∧ Pw E K i j l := by
  intro K
  induction K with
  | zero => intro i m j a b hm; omega
  | succ K ih =>
    intro i m j a b hm h1 h2
    have toK : ∃ a', a' ≤ a ∧ (m = K → Pw E K i K a') := by
      rcases h1 with h1 | ⟨a1, a2, p1, p2, e⟩
      · exact ⟨a, Nat.le_refl _, fun e => by subst e; exact h1⟩
      · exact ⟨a1, by omega, fun _ => p1⟩
    have ofK : ∃ b', b' ≤ b ∧ (m = K → Pw E K K j b') := by
      rcases h2 with h2 | ⟨b1, b2, p1, p2, e⟩
      · exact ⟨b, Nat.le_refl _, fun e => by subst e; exact h2⟩
      · exact ⟨b2, by omega, fun _ => p2⟩
    by_cases e : m = K
    · obtain ⟨a', ha', p1⟩ := toK
      obtain ⟨b', hb', p2⟩ := ofK
      exact ⟨a' + b', by omega, .inr ⟨a', b', p1 e, p2 e, rfl⟩⟩
    · have hm' : m < K := by omega
      rcases h1 with h1 | ⟨a1, a2, p1, p2, ea⟩
      · rcases h2 with h2 | ⟨b1, b2, r1, r2, eb⟩
        · obtain ⟨l, hl, hp⟩ := ih i m j a b hm' h1 h2
          exact ⟨l, hl, .inl hp⟩
        · obtain ⟨l, hl, hp⟩ := ih i m K a b1 hm' h1 r1
          exact ⟨l + b2, by omega, .inr ⟨l, b2, hp, r2, rfl⟩⟩
      · rcases h2 with h2 | ⟨b1, b2, r1, r2, eb⟩
        · obtain ⟨l, hl, hp⟩ := ih K m j a2 b hm' p2 h2
          exact ⟨a1 + l, by omega, .inr ⟨a1, l, p1, hp, rfl⟩⟩
        · exact ⟨a1 + b2, by omega, .inr ⟨a1, b2, p1, r2, rfl⟩⟩

/-- The edges that leave i or one of the first K. -/
def Eof (E : Nat → Nat → Prop) (i K : Nat) (u v : Nat) : Prop := E u v ∧ (u = i ∨ u < K)

theorem Pw.ofDist {E : Nat → Nat → Prop} {n i K : Nat} {d : Nat → Int} (h : IsDist (Eof E i K) n i d) : ∀ (k v : Nat), v < n → d v = k → ∃ l, l ≤ k ∧ Pw E K i v l := by
  intro k
  induction k with
  | zero =>
    intro v hv hk
    have := h.eq_of_zero hv (by omega)
    exact ⟨0, by omega, Pw.ofZero (.inl ⟨this.symm, rfl⟩) K⟩
  | succ k ih =>
    intro v hv hk
    have hvi : v ≠ i := by intro e; subst e; rw [h.zero] at hk; omega
    obtain ⟨u, hu, ⟨hE, hor⟩, h0, h1⟩ := h.par v hv (by omega) hvi
    rcases hor with e | e
    · subst e
      exact ⟨1, by omega, Pw.ofZero (.inr ⟨hE, rfl⟩) K⟩
    · obtain ⟨l, hl, hp⟩ := ih u hu (by omega)
      obtain ⟨l', hl', hp'⟩ := Pw.cat K i u v l 1 e hp (Pw.ofZero (.inr ⟨hE, rfl⟩) K)
      exact ⟨l', by omega, hp'⟩

theorem Pw.closed {E : Nat → Nat → Prop} {n s K' : Nat} {d : Nat → Int} (hE : ∀ u v, E u v → u < n ∧ v < n) (hK : K' ≤ n) (h : IsDist (Eof E s K') n s d) : ∀ (K i j l : Nat), K ≤ K' → (i = s ∨ i < K') → i < n → Pw E K i j l → 0 ≤ d i → 0 ≤ d j ∧ j < n := by
  intro K
  induction K with
  | zero =>
    intro i j l _ hi hin hp h0
    rcases hp with ⟨rfl, _⟩ | ⟨e, _⟩
    · exact ⟨h0, hin⟩
    · exact ⟨(h.edge i j hin (hE _ _ e).2 ⟨e, hi⟩ h0).1, (hE _ _ e).2⟩
  | succ K ih =>
    intro i j l hKK hi hin hp h0
    rcases hp with hp | ⟨a, b, p1, p2, _⟩
    · exact ih i j l (by omega) hi hin hp h0
    · obtain ⟨g0, g1⟩ := ih i K a (by omega) hi hin p1 h0
      exact ih K j b (by omega) (.inr (by omega)) g1 p2 g0

/-- What is reached over the first K is reached by fewer than n steps. -/
theorem Pw.short {E : Nat → Nat → Prop} {n : Nat} (hE : ∀ u v, E u v → u < n ∧ v < n) {K i j l : Nat} (hK : K ≤ n) (hi : i < n) (hp : Pw E K i j l) : ∃ l', l' < n ∧ Pw E K i j l' := by
  obtain ⟨d, hd⟩ := dist_exists (Eof E i K) n i hi
  obtain ⟨h0, hj⟩ := Pw.closed hE hK hd K i j l (Nat.le_refl _) (.inl rfl) hi hp (by rw [hd.zero]; omega)
  obtain ⟨l', hl', hp'⟩ := Pw.ofDist hd (d j).toNat j hj (by omega)
  have := hd.lt j hj
  exact ⟨l', by omega, hp'⟩

/-- The way to K need not pass K. -/
theorem Pw.toK {E : Nat → Nat → Prop} {K i l : Nat} (h : Pw E (K + 1) i K l) : ∃ l', Pw E K i K l' := by
  rcases h with h | ⟨a, b, p1, p2, _⟩
  · exact ⟨_, h⟩
  · exact ⟨_, p1⟩
theorem Pw.ofK {E : Nat → Nat → Prop} {K j l : Nat} (h : Pw E (K + 1) K j l) : ∃ l', Pw E K K j l' := by
  rcases h with h | ⟨a, b, p1, p2, _⟩
  · exact ⟨_, h⟩
  · exact ⟨_, p2⟩

/-- x is at most l, and is there. -/
def Fit (x : Int) (l : Nat) : Prop := 0 ≤ x ∧ x ≤ l

theorem flat_inj {n i j i' j' : Nat} (hj : j < n) (hj' : j' < n) (h : i * n + j = i' * n + j') : i = i' ∧ j = j' := by
  have h1 : (i * n + j) / n = i := by rw [Nat.mul_comm, Nat.mul_add_div (by omega), Nat.div_eq_of_lt hj]; omega
  have h2 : (i' * n + j') / n = i' := by rw [Nat.mul_comm, Nat.mul_add_div (by omega), Nat.div_eq_of_lt hj']; omega
  have e : i = i' := by rw [← h1, h, h2]
  subst e
  exact ⟨rfl, by omega⟩
theorem flat_lt {n i j : Nat} (hi : i < n) (hj : j < n) : i * n + j < n * n := by
  have : (i + 1) * n ≤ n * n := Nat.mul_le_mul_right n hi
  rw [Nat.succ_mul] at this
  omega

/-- The table in round K, the pairs up to (i0, j0) done. -/
structure FW (E : Nat → Nat → Prop) (n : Nat) (δ : Nat → Nat → Int) (K i0 j0 : Nat) (D : Nat → Int) : Prop where
  neg : ∀ i j, i < n → j < n → -1 ≤ D (i * n + j)
  low : ∀ i j, i < n → j < n → 0 ≤ D (i * n + j) → 0 ≤ δ i j ∧ δ i j ≤ D (i * n + j)
  rch : ∀ i j, i < n → j < n → 0 ≤ D (i * n + j) → ∃ l, Pw E (K + 1) i j l
  old : ∀ i j l, i < n → j < n → Pw E K i j l → Fit (D (i * n + j)) l
  new : ∀ i j l, i < n → j < n → (i < i0 ∨ (i = i0 ∧ j < j0)) → Pw E (K + 1) i j l → Fit (D (i * n + j)) l

theorem FW.boundTo {E : Nat → Nat → Prop} {n : Nat} {δ : Nat → Nat → Int} {K i0 j0 : Nat} {D : Nat → Int} (h : FW E n δ K i0 j0 D) (hE : ∀ u v, E u v → u < n ∧ v < n) (hK : K < n) {i : Nat} (hi : i < n) (h0 : 0 ≤ D (i * n + K)) : D (i * n + K) < n ∧ ∃ l, Pw E K i K l := by
  obtain ⟨l, hl⟩ := h.rch i K hi hK h0
  obtain ⟨l1, hl1⟩ := hl.toK
  obtain ⟨l2, hlt, hl2⟩ := Pw.short hE (by omega) hi hl1
  have := (h.old i K l2 hi hK hl2).2
  exact ⟨by omega, _, hl2⟩
theorem FW.boundOf {E : Nat → Nat → Prop} {n : Nat} {δ : Nat → Nat → Int} {K i0 j0 : Nat} {D : Nat → Int} (h : FW E n δ K i0 j0 D) (hE : ∀ u v, E u v → u < n ∧ v < n) (hK : K < n) {j : Nat} (hj : j < n) (h0 : 0 ≤ D (K * n + j)) : D (K * n + j) < n ∧ ∃ l, Pw E K K j l := by
  obtain ⟨l, hl⟩ := h.rch K j hK hj h0
  obtain ⟨l1, hl1⟩ := hl.ofK
  obtain ⟨l2, hlt, hl2⟩ := Pw.short hE (by omega) hK hl1
  have := (h.old K j l2 hK hj hl2).2
  exact ⟨by omega, _, hl2⟩

/-- No way from i to K: the row is passed over. -/
theorem FW.skipRow {E : Nat → Nat → Prop} {n : Nat} {δ : Nat → Nat → Int} {K i0 : Nat} {D : Nat → Int} (h : FW E n δ K i0 0 D) (hK : K < n) (hi : i0 < n) (h0 : D (i0 * n + K) < 0) : FW E n δ K (i0 + 1) 0 D := by
  refine { h with new := ?_ }
  intro i j l hin hjn hor hp
  by_cases e : i < i0
  · exact h.new i j l hin hjn (.inl e) hp
  · obtain rfl : i = i0 := by omega
    rcases hp with hp | ⟨a, b, p1, p2, e⟩
    · exact h.old i j l hin hjn hp
    · have := (h.old i K a hin hK p1).1
      omega

theorem FW.skip {E : Nat → Nat → Prop} {n : Nat} {δ : Nat → Nat → Int} {K i0 j0 : Nat} {D : Nat → Int} (h : FW E n δ K i0 j0 D) (hK : K < n) (hi : i0 < n) (hj : j0 < n)
    (h0 : D (K * n + j0) < 0 ∨ (0 ≤ D (i0 * n + j0) ∧ D (i0 * n + j0) ≤ D (i0 * n + K) + D (K * n + j0))) : FW E n δ K i0 (j0 + 1) D := by
  refine { h with new := ?_ }
  intro i j l hin hjn hor hp
  by_cases e : i < i0 ∨ (i = i0 ∧ j < j0)
  · exact h.new i j l hin hjn e hp
  · obtain rfl : i = i0 := by omega
    obtain rfl : j = j0 := by omega
    rcases hp with hp | ⟨a, b, p1, p2, e⟩
    · exact h.old i j l hin hjn hp
    · have f1 := h.old i K a hin hK p1
      have f2 := h.old K j b hK hjn p2
      unfold Fit at *
      omega

theorem FW.relax {E : Nat → Nat → Prop} {n : Nat} {δ : Nat → Nat → Int} {K i0 j0 : Nat} {D : Nat → Int} (h : FW E n δ K i0 j0 D) (hE : ∀ u v, E u v → u < n ∧ v < n) (hδ : ∀ i, i < n → IsDist E n i (δ i)) (hK : K < n) (hi : i0 < n) (hj : j0 < n)
    (h1 : 0 ≤ D (i0 * n + K)) (h2 : 0 ≤ D (K * n + j0)) (h3 : D (i0 * n + j0) < 0 ∨ D (i0 * n + K) + D (K * n + j0) < D (i0 * n + j0)) :
    FW E n δ K i0 (j0 + 1) (upd D (i0 * n + j0) (D (i0 * n + K) + D (K * n + j0))) := by
  obtain ⟨_, la, pa⟩ := h.boundTo hE hK hi h1
  obtain ⟨_, lb, pb⟩ := h.boundOf hE hK hj h2
  have hl1 := h.low i0 K hi hK h1
  have hl2 := h.low K j0 hK hj h2
  have htri := (hδ i0 hi).tri (hδ K hK) hl1.1 j0 hj hl2.1
  have key : ∀ i j, i < n → j < n → (i = i0 ∧ j = j0 ∧ upd D (i0 * n + j0) (D (i0 * n + K) + D (K * n + j0)) (i * n + j) = D (i0 * n + K) + D (K * n + j0)) ∨ (¬ (i = i0 ∧ j = j0) ∧ upd D (i0 * n + j0) (D (i0 * n + K) + D (K * n + j0)) (i * n + j) = D (i * n + j)) := by
    intro i j hin hjn
    by_cases e : i = i0 ∧ j = j0
    · obtain ⟨rfl, rfl⟩ := e
      exact .inl ⟨rfl, rfl, upd_same _ _ _⟩
    · exact .inr ⟨e, upd_ne _ _ _ _ (fun he => e (flat_inj hjn hj he))⟩
  refine ⟨?_, ?_, ?_, ?_, ?_⟩
  · intro i j hin hjn
    rcases key i j hin hjn with ⟨_, _, e⟩ | ⟨_, e⟩
    · rw [e]; omega
    · rw [e]; exact h.neg i j hin hjn
  · intro i j hin hjn
    rcases key i j hin hjn with ⟨rfl, rfl, e⟩ | ⟨_, e⟩
    · rw [e]; intro _; omega
    · rw [e]; exact h.low i j hin hjn
  · intro i j hin hjn
    rcases key i j hin hjn with ⟨rfl, rfl, e⟩ | ⟨_, e⟩
    · intro _; exact ⟨_, .inr ⟨la, lb, pa, pb, rfl⟩⟩
    · rw [e]; exact h.rch i j hin hjn
  · intro i j l hin hjn hp
    have f1 := h.old i j l hin hjn hp
    rcases key i j hin hjn with ⟨rfl, rfl, e⟩ | ⟨_, e⟩
    · rw [e]; unfold Fit at *; omega
    · rw [e]; exact f1
  · intro i j l hin hjn hor hp
    rcases key i j hin hjn with ⟨rfl, rfl, e⟩ | ⟨hne, e⟩
    · rw [e]
      rcases hp with hp | ⟨a, b, p1, p2, e⟩
      · have f1 := h.old i j l hin hjn hp
        unfold Fit at *; omega
      · have f1 := h.old i K a hin hK p1
        have f2 := h.old K j b hK hjn p2
        unfold Fit at *; omega
    · rw [e]; exact h.new i j l hin hjn (by omega) hp

theorem FW.nextRow {E : Nat → Nat → Prop} {n : Nat} {δ : Nat → Nat → Int} {K i0 : Nat} {D : Nat → Int} (h : FW E n δ K i0 n D) : FW E n δ K (i0 + 1) 0 D := by
  refine { h with new := ?_ }
  intro i j l hin hjn hor hp
  exact h.new i j l hin hjn (by omega) hp
theorem FW.nextRound {E : Nat → Nat → Prop} {n : Nat} {δ : Nat → Nat → Int} {K : Nat} {D : Nat → Int} (h : FW E n δ K n 0 D) : FW E n δ (K + 1) 0 0 D := by
  refine ⟨h.neg, h.low, ?_, ?_, ?_⟩
  · intro i j hin hjn h0
    obtain ⟨l, hl⟩ := h.rch i j hin hjn h0
    exact ⟨l, hl.up⟩
  · intro i j l hin hjn hp
    exact h.new i j l hin hjn (by omega) hp
  · intro i j l hin hjn hor
    omega

theorem FW.finish {E : Nat → Nat → Prop} {n : Nat} {δ : Nat → Nat → Int} {D : Nat → Int} (h : FW E n δ n 0 0 D) (hE : ∀ u v, E u v → u < n ∧ v < n) (hδ : ∀ i, i < n → IsDist E n i (δ i)) : ∀ i j, i < n → j < n → D (i * n + j) = δ i j := by
  intro i j hi hj
  have hd := hδ i hi
  have hn1 := hd.neg j hj
  have hn2 := h.neg i j hi hj
  have hde : IsDist (Eof E i n) n i (δ i) := by
    refine ⟨hd.hs, hd.zero, hd.neg, fun u v hu hv he => hd.edge u v hu hv he.1, ?_⟩
    intro v hv h0 hvi
    obtain ⟨u, hu, hE', h1, h2⟩ := hd.par v hv h0 hvi
    exact ⟨u, hu, ⟨hE', .inr hu⟩, h1, h2⟩
  by_cases h0 : 0 ≤ δ i j
  · obtain ⟨l, hl, hp⟩ := Pw.ofDist hde (δ i j).toNat j hj (by omega)
    have f := h.old i j l hi hj hp
    unfold Fit at f
    have := h.low i j hi hj f.1
    omega
  · by_cases h1 : 0 ≤ D (i * n + j)
    · have := h.low i j hi hj h1; omega
    · omega

/-- The table before the rounds: the first l links are in. -/
structure FW0 (L : Lk) (l0 : Nat) (D : Nat → Int) : Prop where
  neg : ∀ i j, i < L.n → j < L.n → -1 ≤ D (i * L.n + j)
  diag : ∀ i, i < L.n → D (i * L.n + i) = 0
  is : ∀ i j, i < L.n → j < L.n → 0 ≤ D (i * L.n + j) → i = j ∨ (L.E i j ∧ D (i * L.n + j) = 1)
  link : ∀ l, l < l0 → L.us l = true → D (L.f l * L.n + L.g l) = 1 ∧ D (L.g l * L.n + L.f l) = 1

theorem FW0.skip {L : Lk} {l0 : Nat} {D : Nat → Int} (h : FW0 L l0 D) (hu : L.us l0 = false) : FW0 L (l0 + 1) D := by
  refine { h with link := ?_ }
  intro l hl hus
  by_cases e : l = l0
  · subst e; rw [hu] at hus; cases hus
  · exact h.link l (by omega) hus

theorem FW0.put {L : Lk} {l0 : Nat} {D : Nat → Int} (h : FW0 L l0 D) (hf : ∀ i, i < L.m → L.f i < L.n ∧ L.g i < L.n ∧ L.f i ≠ L.g i) (hl0 : l0 < L.m) (hu : L.us l0 = true) :
    FW0 L (l0 + 1) (upd (upd D (L.f l0 * L.n + L.g l0) 1) (L.g l0 * L.n + L.f l0) 1) := by
  obtain ⟨hfa, hga, hne⟩ := hf l0 hl0
  have key : ∀ i j, i < L.n → j < L.n → (((i = L.f l0 ∧ j = L.g l0) ∨ (i = L.g l0 ∧ j = L.f l0)) ∧ upd (upd D (L.f l0 * L.n + L.g l0) 1) (L.g l0 * L.n + L.f l0) 1 (i * L.n + j) = 1) ∨
      upd (upd D (L.f l0 * L.n + L.g l0) 1) (L.g l0 * L.n + L.f l0) 1 (i * L.n + j) = D (i * L.n + j) := by
    intro i j hi hj
    by_cases e : i * L.n + j = L.g l0 * L.n + L.f l0
    · obtain ⟨rfl, rfl⟩ := flat_inj hj hfa e
      exact .inl ⟨.inr ⟨rfl, rfl⟩, upd_same _ _ _⟩
    · rw [upd_ne _ _ _ _ e]
      by_cases e2 : i * L.n + j = L.f l0 * L.n + L.g l0
      · obtain ⟨rfl, rfl⟩ := flat_inj hj hga e2
        exact .inl ⟨.inl ⟨rfl, rfl⟩, upd_same _ _ _⟩
      · exact .inr (upd_ne _ _ _ _ e2)
  have hE1 : L.E (L.f l0) (L.g l0) := ⟨l0, hl0, hu, .inl ⟨rfl, rfl⟩⟩
  have hE2 : L.E (L.g l0) (L.f l0) := ⟨l0, hl0, hu, .inr ⟨rfl, rfl⟩⟩
  refine ⟨?_, ?_, ?_, ?_⟩
  · intro i j hi hj
    rcases key i j hi hj with ⟨_, e⟩ | e
    · rw [e]; omega
    · rw [e]; exact h.neg i j hi hj
  · intro i hi
    rcases key i i hi hi with ⟨h1 | h1, e⟩ | e
    · omega
    · omega
    · rw [e]; exact h.diag i hi
  · intro i j hi hj
    rcases key i j hi hj with ⟨⟨rfl, rfl⟩ | ⟨rfl, rfl⟩, e⟩ | e
    · intro _; exact .inr ⟨hE1, e⟩
    · intro _; exact .inr ⟨hE2, e⟩
    · rw [e]; exact h.is i j hi hj
  · intro l hl hus
    by_cases el : l = l0
    · subst el
      constructor
      · by_cases e : L.f l * L.n + L.g l = L.g l * L.n + L.f l
        · rw [e]; exact upd_same _ _ _
        · rw [upd_ne _ _ _ _ e]; exact upd_same _ _ _
      · exact upd_same _ _ _
    · obtain ⟨k1, k2⟩ := h.link l (by omega) hus
      have hlm : l < L.m := by omega
      obtain ⟨hf1, hg1, _⟩ := hf l hlm
      constructor
      · rcases key _ _ hf1 hg1 with ⟨_, e⟩ | e
        · exact e
        · rw [e]; exact k1
      · rcases key _ _ hg1 hf1 with ⟨_, e⟩ | e
        · exact e
        · rw [e]; exact k2

theorem Lk.E_lt (L : Lk) (hf : ∀ i, i < L.m → L.f i < L.n ∧ L.g i < L.n ∧ L.f i ≠ L.g i) : ∀ u v, L.E u v → u < L.n ∧ v < L.n := by
  rintro u v ⟨l, hl, _, ⟨rfl, rfl⟩ | ⟨rfl, rfl⟩⟩
  · exact ⟨(hf l hl).1, (hf l hl).2.1⟩
  · exact ⟨(hf l hl).2.1, (hf l hl).1⟩

theorem FW0.begin {L : Lk} {D : Nat → Int} {δ : Nat → Nat → Int} (h : FW0 L L.m D) (hf : ∀ i, i < L.m → L.f i < L.n ∧ L.g i < L.n ∧ L.f i ≠ L.g i) (hδ : ∀ i, i < L.n → IsDist L.E L.n i (δ i)) : FW L.E L.n δ 0 0 0 D := by
  refine ⟨h.neg, ?_, ?_, ?_, ?_⟩
  · intro i j hi hj h0
    rcases h.is i j hi hj h0 with rfl | ⟨e, e1⟩
    · rw [(hδ i hi).zero, h.diag i hi]; omega
    · have := (hδ i hi).edge i j hi hj e (by rw [(hδ i hi).zero]; omega)
      rw [(hδ i hi).zero] at this
      omega
  · intro i j hi hj h0
    rcases h.is i j hi hj h0 with rfl | ⟨e, e1⟩
    · exact ⟨0, .inl (.inl ⟨rfl, rfl⟩)⟩
    · exact ⟨1, .inl (.inr ⟨e, rfl⟩)⟩
  · intro i j l hi hj hp
    unfold Fit
    rcases hp with ⟨rfl, rfl⟩ | ⟨⟨k, hk, hus, h2⟩, rfl⟩
    · rw [h.diag i hi]; omega
    · obtain ⟨k1, k2⟩ := h.link k hk hus
      rcases h2 with ⟨rfl, rfl⟩ | ⟨rfl, rfl⟩
      · rw [k1]; omega
      · rw [k2]; omega
  · intro i j l hi hj hor
    omega

end Go.Proofs.Qxb6608983a
