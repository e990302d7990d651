import Derived.Test.Qxb6608983aBfs
namespace Go.Proofs.Qxb6608983a
set_option linter.unusedVariables false
set_option linter.unusedSimpArgs false

/-- d gives the distances from s over E among the first n: -1 for what s does not reach. -/
structure IsDist (E : Nat → Nat → Prop) (n s : Nat) (d : Nat → Int) : Prop where
  hs : s < n
  zero : d s = 0
  neg : ∀ v, v < n → -1 ≤ d v
  edge : ∀ u v, u < n → v < n → E u v → 0 ≤ d u → 0 ≤ d v ∧ d v ≤ d u + 1
  par : ∀ v, v < n → 0 ≤ d v → v ≠ s → ∃ u, u < n ∧ E u v ∧ 0 ≤ d u ∧ d v = d u + 1

theorem IsDist.le {E : Nat → Nat → Prop} {n s : Nat} {d d' : Nat → Int} (h : IsDist E n s d) (h' : IsDist E n s d') : ∀ (k : Nat) (v : Nat), v < n → d v = k → 0 ≤ d' v ∧ d' v ≤ d v := by
  intro k
  induction k with
  | zero =>
    intro v hv hk
    by_cases e : v = s
    · subst e; rw [h'.zero, hk]; omega
    · obtain ⟨u, hu, _, h0, h1⟩ := h.par v hv (by omega) e
      omega
  | succ k ih =>
    intro v hv hk
    by_cases e : v = s
    · subst e; rw [h.zero] at hk; omega
    · obtain ⟨u, hu, hE, h0, h1⟩ := h.par v hv (by omega) e
      obtain ⟨i1, i2⟩ := ih u hu (by omega)
      obtain ⟨j1, j2⟩ := h'.edge u v hu hv hE i1
      omega

theorem IsDist.unique {E : Nat → Nat → Prop} {n s : Nat} {d d' : Nat → Int} (h : IsDist E n s d) (h' : IsDist E n s d') : ∀ v, v < n → d v = d' v := by
  intro v hv
  have n1 := h.neg v hv
  have n2 := h'.neg v hv
  by_cases h0 : 0 ≤ d v
  · obtain ⟨a1, a2⟩ := h.le h' (d v).toNat v hv (by omega)
    obtain ⟨b1, b2⟩ := h'.le h (d' v).toNat v hv (by omega)
    omega
  · by_cases h1 : 0 ≤ d' v
    · obtain ⟨b1, b2⟩ := h'.le h (d' v).toNat v hv (by omega)
      omega
    · omega

/-- What s reaches in k steps. -/
def Steps' (E : Nat → Nat → Prop) (n s : Nat) : Nat → Nat → Prop
  | 0, v => v = s
  | k + 1, v => ∃ u, u < n ∧ Steps' E n s k u ∧ E u v

theorem least {p : Nat → Prop} (h : ∃ n, p n) : ∃ n, p n ∧ ∀ m, p m → n ≤ m := by
  obtain ⟨n, hn⟩ := h
  induction n using Nat.strongRecOn with
  | _ n ih =>
    by_cases hm : ∃ m, m < n ∧ p m
    · obtain ⟨m, hlt, hp⟩ := hm
      exact ih m hlt hp
    · exact ⟨n, hn, fun m hp => Nat.le_of_not_lt fun hlt => hm ⟨m, hlt, hp⟩⟩

theorem choice {α : Type} {p : Nat → α → Prop} (h : ∀ v, ∃ x, p v x) : ∃ f : Nat → α, ∀ v, p v (f v) := ⟨fun v => Classical.choose (h v), fun v => Classical.choose_spec (h v)⟩

theorem dist_exists (E : Nat → Nat → Prop) (n s : Nat) (hs : s < n) : ∃ d, IsDist E n s d := by
  have hv : ∀ v, ∃ x : Int, (0 ≤ x ∧ Steps' E n s x.toNat v ∧ ∀ m, Steps' E n s m v → x ≤ m) ∨ (x = -1 ∧ ∀ m, ¬ Steps' E n s m v) := by
    intro v
    by_cases h : ∃ k, Steps' E n s k v
    · obtain ⟨k, hk, hl⟩ := least h
      exact ⟨k, .inl ⟨by omega, by simpa using hk, fun m hm => by have := hl m hm; omega⟩⟩
    · exact ⟨-1, .inr ⟨rfl, fun m hm => h ⟨m, hm⟩⟩⟩
  obtain ⟨d, hd⟩ := choice hv
  refine ⟨d, hs, ?_, ?_, ?_, ?_⟩
  · rcases hd s with ⟨h0, _, h2⟩ | ⟨_, h2⟩
    · have := h2 0 rfl; omega
    · exact absurd rfl (h2 0)
  · intro v _
    rcases hd v with ⟨h0, _⟩ | ⟨h0, _⟩ <;> omega
  · intro u v hu hv hE h0
    rcases hd u with ⟨_, h1, _⟩ | ⟨h1, _⟩
    · have hst : Steps' E n s ((d u).toNat + 1) v := ⟨u, hu, h1, hE⟩
      rcases hd v with ⟨g0, _, g2⟩ | ⟨_, g2⟩
      · have := g2 _ hst; omega
      · exact absurd hst (g2 _)
    · omega
  · intro v hv h0 hvs
    rcases hd v with ⟨_, h1, h2⟩ | ⟨h1, _⟩
    · obtain ⟨k, hk⟩ : ∃ k, k = (d v).toNat := ⟨_, rfl⟩
      rw [← hk] at h1
      cases k with
      | zero => exact absurd h1 hvs
      | succ k =>
        obtain ⟨u, hu, hst, hE⟩ := h1
        refine ⟨u, hu, hE, ?_⟩
        rcases hd u with ⟨g0, g1, g2⟩ | ⟨_, g2⟩
        · have a1 := g2 k hst
          have a2 := h2 ((d u).toNat + 1) ⟨u, hu, g1, hE⟩
          omega
        · exact absurd hst (g2 k)
    · omega

/-- A distance is less than the number of processors. -/
theorem IsDist.lt {E : Nat → Nat → Prop} {n s : Nat} {d : Nat → Int} (h : IsDist E n s d) : ∀ v, v < n → d v < n := by
  have key : ∀ (k v : Nat), v < n → d v = k → ∃ f : Nat → Nat, ∀ i, i < k + 1 → f i < n ∧ d (f i) = i := by
    intro k
    induction k with
    | zero =>
      intro v hv hk
      exact ⟨fun _ => v, fun i hi => ⟨hv, by rw [hk]; omega⟩⟩
    | succ k ih =>
      intro v hv hk
      have hvs : v ≠ s := by intro e; subst e; rw [h.zero] at hk; omega
      obtain ⟨u, hu, _, h0, h1⟩ := h.par v hv (by omega) hvs
      obtain ⟨f, hf⟩ := ih u hu (by omega)
      refine ⟨upd f (k + 1) v, fun i hi => ?_⟩
      by_cases e : i = k + 1
      · subst e; rw [upd_same]; exact ⟨hv, hk⟩
      · rw [upd_ne _ _ _ _ e]; exact hf i (by omega)
  intro v hv
  by_cases h0 : 0 ≤ d v
  · obtain ⟨f, hf⟩ := key (d v).toNat v hv (by omega)
    have := pigeon n ((d v).toNat + 1) f (fun i hi => (hf i hi).1) (fun i j hi hj e => by
      have h1 := (hf i hi).2
      have h2 := (hf j hj).2
      rw [e] at h1; omega)
    omega
  · have := h.hs; omega

/-- A search's distances are the distances. -/
theorem Reached.isDist {N : Net} {s : Nat} {D V : Nat → Int} {q : Nat} {Q : Nat → Nat} (h : Reached N s D V q Q) {E : Nat → Nat → Prop} (hF : N.F s = false)
    (hE : ∀ u v, u < N.n → v < N.n → (E u v ↔ N.F u = false ∧ ∃ j, j < N.PL u ∧ N.peer u j = v ∧ N.use u j)) : IsDist E N.n s D := by
  have hok : ∀ v, v < N.n → 0 ≤ D v → N.F v = false := by
    intro v hv h0
    by_cases e : v = s
    · subst e; exact hF
    · obtain ⟨u, hu, j, hj, hp, _, _, _, huse⟩ := h.par v hv h0 e
      have := huse.1
      rw [hp] at this; exact this
  refine ⟨h.hs, h.Ds, h.neg, ?_, ?_⟩
  · intro u v hu hv huv h0
    obtain ⟨_, j, hj, hp, huse⟩ := (hE u v hu hv).1 huv
    have := h.edge u hu h0 j hj huse
    rw [hp] at this; exact this
  · intro v hv h0 hvs
    obtain ⟨u, hu, j, hj, hp, _, hD, hDu, huse⟩ := h.par v hv h0 hvs
    exact ⟨u, hu, (hE u v hu hv).2 ⟨hok u hu hDu, j, hj, hp, huse⟩, hDu, hD⟩

end Go.Proofs.Qxb6608983a
