import Derived.KernelRfl
namespace Go.Proofs.Qxb6608983a
set_option linter.unusedVariables false
set_option linter.unusedSimpArgs false

/-- f with v in place i. -/
def upd {α : Type} (f : Nat → α) (i : Nat) (v : α) : Nat → α := fun j => if j = i then v else f j
theorem upd_same {α : Type} (f : Nat → α) (i : Nat) (v : α) : upd f i v i = v := by simp [upd]
theorem upd_ne {α : Type} (f : Nat → α) (i j : Nat) (v : α) (h : j ≠ i) : upd f i v j = f j := by simp [upd, h]

/-- k different numbers below n: k ≤ n. -/
theorem pigeon : ∀ (n k : Nat) (f : Nat → Nat), (∀ i, i < k → f i < n) → (∀ i j, i < k → j < k → f i = f j → i = j) → k ≤ n := by
  intro n
  induction n with
  | zero =>
    intro k f h _
    cases k with
    | zero => exact Nat.le_refl _
    | succ k => exact absurd (h 0 (by omega)) (by omega)
  | succ n ih =>
    intro k f h inj
    by_cases hn : ∃ a, a < k ∧ f a = n
    · obtain ⟨a, ha, hfa⟩ := hn
      have hk : k - 1 ≤ n := by
        refine ih (k - 1) (fun i => if i < a then f i else f (i + 1)) ?_ ?_
        · intro i hi
          by_cases hia : i < a
          · simp only [hia, if_true]
            have h1 := h i (by omega)
            have h2 : f i ≠ n := fun e => by have := inj i a (by omega) ha (by omega); omega
            omega
          · simp only [hia, if_false]
            have h1 := h (i + 1) (by omega)
            have h2 : f (i + 1) ≠ n := fun e => by have := inj (i + 1) a (by omega) ha (by omega); omega
            omega
        · intro i j hi hj e
          by_cases hia : i < a <;> by_cases hja : j < a <;> simp only [hia, hja, if_true, if_false] at e
          · exact inj i j (by omega) (by omega) e
          · have := inj i (j + 1) (by omega) (by omega) e; omega
          · have := inj (i + 1) j (by omega) (by omega) e; omega
          · have := inj (i + 1) (j + 1) (by omega) (by omega) e; omega
      omega
    · have : k ≤ n := by
        refine ih k f ?_ inj
        intro i hi
        have h1 := h i hi
        have h2 : f i ≠ n := fun e => hn ⟨i, hi, e⟩
        omega
      omega

/-- A network as the walk sees it: n processors, PL v ports at v, each to a peer over a link; what has failed; what is cut. -/
structure Net where
  n : Nat
  m : Nat
  PL : Nat → Nat
  peer : Nat → Nat → Nat
  link : Nat → Nat → Nat
  F : Nat → Bool
  C : Nat → Bool

def Net.ok (N : Net) : Prop := ∀ v, v < N.n → ∀ j, j < N.PL v → N.peer v j < N.n ∧ N.link v j < N.m
def Net.use (N : Net) (u j : Nat) : Prop := N.F (N.peer u j) = false ∧ N.C (N.link u j) = false

/-- The search under way: i processors are done, of the next one j ports. -/
structure BfsInv (N : Net) (s i j : Nat) (D V : Nat → Int) (q : Nat) (Q : Nat → Nat) : Prop where
  hs : s < N.n
  q1 : 1 ≤ q
  qle : q ≤ N.n
  Q0 : Q 0 = s
  qn : ∀ k, k < q → Q k < N.n
  inj : ∀ k k', k < q → k' < q → Q k = Q k' → k = k'
  ile : i ≤ q
  mem : ∀ v, v < N.n → (0 ≤ D v ↔ ∃ k, k < q ∧ Q k = v)
  neg : ∀ v, v < N.n → -1 ≤ D v
  Ds : D s = 0
  mono : ∀ k k', k ≤ k' → k' < q → D (Q k) ≤ D (Q k')
  span : ∀ k, k < q → i < q → D (Q k) ≤ D (Q i) + 1
  dk : ∀ k, k < q → D (Q k) ≤ k
  par : ∀ k, k < q → 0 < k → ∃ k', k' < k ∧ ∃ j', j' < N.PL (Q k') ∧ N.peer (Q k') j' = Q k ∧ V (Q k) = N.link (Q k') j' ∧ D (Q k) = D (Q k') + 1 ∧ N.use (Q k') j'
  done : ∀ k, k < i → ∀ j', j' < N.PL (Q k) → N.use (Q k) j' → 0 ≤ D (N.peer (Q k) j') ∧ D (N.peer (Q k) j') ≤ D (Q k) + 1
  cur : i < q → ∀ j', j' < j → N.use (Q i) j' → 0 ≤ D (N.peer (Q i) j') ∧ D (N.peer (Q i) j') ≤ D (Q i) + 1

theorem bfs_start (N : Net) (s : Nat) (V : Nat → Int) (Q : Nat → Nat) (hs : s < N.n) : BfsInv N s 0 0 (upd (fun _ => -1) s 0) V 1 (upd Q 0 s) := by
  have hk0 : ∀ k, k < 1 → k = 0 := by omega
  refine ⟨hs, by omega, by omega, by simp [upd], ?_, ?_, by omega, ?_, ?_, by simp [upd], ?_, ?_, ?_, ?_, ?_, ?_⟩
  · intro k hk; rw [hk0 k hk]; simpa [upd] using hs
  · intro k k' hk hk' _; omega
  · intro v hv
    by_cases e : v = s
    · subst e
      simp only [upd_same]
      exact ⟨fun _ => ⟨0, by omega, by simp [upd]⟩, fun _ => by omega⟩
    · rw [upd_ne _ _ _ _ e]
      constructor
      · intro h; omega
      · rintro ⟨k, hk, hq⟩; rw [hk0 k hk, upd_same] at hq; exact absurd hq.symm e
  · intro v hv
    by_cases e : v = s
    · subst e; simp [upd]
    · rw [upd_ne _ _ _ _ e]; omega
  · intro k k' h1 h2
    have : k = 0 := by omega
    have : k' = 0 := by omega
    subst_vars
    omega
  · intro k hk _; rw [hk0 k hk]; omega
  · intro k hk; rw [hk0 k hk]; simp [upd]
  · intro k hk h0; omega
  · intro k hk; omega
  · intro _ j' hj'; omega

theorem BfsInv.skip {N : Net} {s i j : Nat} {D V : Nat → Int} {q : Nat} {Q : Nat → Nat} (h : BfsInv N s i j D V q Q) (hN : N.ok) (hi : i < q) (hj : j < N.PL (Q i)) (hskip : N.use (Q i) j → 0 ≤ D (N.peer (Q i) j)) :
    BfsInv N s i (j + 1) D V q Q := by
  refine { h with cur := ?_ }
  intro _ j' hj' hu
  by_cases e : j' = j
  · subst e
    have hp := (hN (Q i) (h.qn i hi) j' hj).1
    have h0 := hskip hu
    obtain ⟨k, hk, hq⟩ := (h.mem _ hp).1 h0
    exact ⟨h0, by rw [← hq]; exact h.span k hk hi⟩
  · exact h.cur hi j' (by omega) hu

theorem BfsInv.room {N : Net} {s i j : Nat} {D V : Nat → Int} {q : Nat} {Q : Nat → Nat} (h : BfsInv N s i j D V q Q) {x : Nat} (hx : x < N.n) (hneg : D x < 0) : q < N.n := by
  have hnew : ∀ k, k < q → Q k ≠ x := by
    intro k hk e
    have := (h.mem x hx).2 ⟨k, hk, e⟩
    omega
  have := pigeon N.n (q + 1) (upd Q q x) (by
    intro k hk
    by_cases e : k = q
    · subst e; simpa [upd] using hx
    · rw [upd_ne _ _ _ _ e]; exact h.qn k (by omega)) (by
    intro k k' hk hk' e
    by_cases e1 : k = q <;> by_cases e2 : k' = q
    · omega
    · subst e1; rw [upd_same, upd_ne _ _ _ _ e2] at e; exact absurd e.symm (hnew k' (by omega))
    · subst e2; rw [upd_same, upd_ne _ _ _ _ e1] at e; exact absurd e (hnew k (by omega))
    · rw [upd_ne _ _ _ _ e1, upd_ne _ _ _ _ e2] at e; exact h.inj k k' (by omega) (by omega) e)
  omega

theorem BfsInv.add {N : Net} {s i j : Nat} {D V : Nat → Int} {q : Nat} {Q : Nat → Nat} (h : BfsInv N s i j D V q Q) (hN : N.ok) (hi : i < q) (hj : j < N.PL (Q i)) (hu : N.use (Q i) j) (hneg : D (N.peer (Q i) j) < 0) :
    BfsInv N s i (j + 1) (upd D (N.peer (Q i) j) (D (Q i) + 1)) (upd V (N.peer (Q i) j) (N.link (Q i) j)) (q + 1) (upd Q q (N.peer (Q i) j)) := by
  have hqi := h.qn i hi
  obtain ⟨hp, hl⟩ := hN (Q i) hqi j hj
  obtain ⟨x, hx⟩ : ∃ x, x = N.peer (Q i) j := ⟨_, rfl⟩
  have hroom := h.room hp hneg
  have hnew : ∀ k, k < q → Q k ≠ N.peer (Q i) j := by
    intro k hk e
    have := (h.mem _ hp).2 ⟨k, hk, e⟩
    omega
  have hDi : 0 ≤ D (Q i) := (h.mem _ hqi).2 ⟨i, hi, rfl⟩
  rw [← hx] at hp hneg hnew ⊢
  have eQ : ∀ k, k < q → upd Q q x k = Q k := fun k hk => upd_ne _ _ _ _ (by omega)
  have eD : ∀ k, k < q → upd D x (D (Q i) + 1) (Q k) = D (Q k) := fun k hk => upd_ne _ _ _ _ (hnew k hk)
  have eV : ∀ k, k < q → upd V x (N.link (Q i) j) (Q k) = V (Q k) := fun k hk => upd_ne _ _ _ _ (hnew k hk)
  have eQq : upd Q q x q = x := upd_same _ _ _
  have eDx : upd D x (D (Q i) + 1) x = D (Q i) + 1 := upd_same _ _ _
  have grow : ∀ y, y < N.n → 0 ≤ D y → upd D x (D (Q i) + 1) y = D y := by
    intro y hy h0
    refine upd_ne _ _ _ _ (fun e => ?_)
    subst e; omega
  refine ⟨h.hs, by omega, by omega, ?_, ?_, ?_, by omega, ?_, ?_, ?_, ?_, ?_, ?_, ?_, ?_, ?_⟩
  · rw [eQ 0 (by omega)]; exact h.Q0
  · intro k hk
    by_cases e : k = q
    · subst e; rw [eQq]; exact hp
    · rw [eQ k (by omega)]; exact h.qn k (by omega)
  · intro k k' hk hk' e
    by_cases e1 : k = q <;> by_cases e2 : k' = q
    · omega
    · subst e1; rw [eQq, eQ k' (by omega)] at e; exact absurd e.symm (hnew k' (by omega))
    · subst e2; rw [eQq, eQ k (by omega)] at e; exact absurd e (hnew k (by omega))
    · rw [eQ k (by omega), eQ k' (by omega)] at e; exact h.inj k k' (by omega) (by omega) e
  · intro v hv
    by_cases e : v = x
    · subst e
      rw [eDx]
      exact ⟨fun _ => ⟨q, by omega, eQq⟩, fun _ => by omega⟩
    · rw [upd_ne _ _ _ _ e, h.mem v hv]
      constructor
      · rintro ⟨k, hk, hq⟩; exact ⟨k, by omega, by rw [eQ k hk]; exact hq⟩
      · rintro ⟨k, hk, hq⟩
        by_cases ek : k = q
        · subst ek; rw [eQq] at hq; exact absurd hq.symm e
        · exact ⟨k, by omega, by rw [eQ k (by omega)] at hq; exact hq⟩
  · intro v hv
    by_cases e : v = x
    · subst e; rw [eDx]; omega
    · rw [upd_ne _ _ _ _ e]; exact h.neg v hv
  · have := eD 0 (by omega)
    rw [h.Q0] at this
    rw [this]; exact h.Ds
  · intro k k' h1 h2
    by_cases e2 : k' = q
    · subst e2
      rw [eQq, eDx]
      by_cases e1 : k = k'
      · subst e1; rw [eQq, eDx]; omega
      · rw [eQ k (by omega), eD k (by omega)]; exact h.span k (by omega) hi
    · rw [eQ k (by omega), eQ k' (by omega), eD k (by omega), eD k' (by omega)]; exact h.mono k k' h1 (by omega)
  · intro k hk _
    rw [eQ i hi, eD i hi]
    by_cases e : k = q
    · subst e; rw [eQq, eDx]; omega
    · rw [eQ k (by omega), eD k (by omega)]; exact h.span k (by omega) hi
  · intro k hk
    by_cases e : k = q
    · subst e; rw [eQq, eDx]; have := h.dk i hi; omega
    · rw [eQ k (by omega), eD k (by omega)]; exact h.dk k (by omega)
  · intro k hk h0
    by_cases e : k = q
    · subst e
      refine ⟨i, hi, j, ?_, ?_, ?_, ?_, ?_⟩
      · rw [eQ i hi]; exact hj
      · rw [eQ i hi, eQq]; exact hx.symm
      · rw [eQq, eQ i hi, upd_same]
      · rw [eQq, eQ i hi, eDx, eD i hi]
      · rw [eQ i hi]; exact hu
    · obtain ⟨k', hk', j', hj', hpe, hV, hD, hu'⟩ := h.par k (by omega) h0
      refine ⟨k', hk', j', ?_, ?_, ?_, ?_, ?_⟩
      · rw [eQ k' (by omega)]; exact hj'
      · rw [eQ k' (by omega), eQ k (by omega)]; exact hpe
      · rw [eQ k (by omega), eQ k' (by omega), eV k (by omega)]; exact hV
      · rw [eQ k (by omega), eQ k' (by omega), eD k (by omega), eD k' (by omega)]; exact hD
      · rw [eQ k' (by omega)]; exact hu'
  · intro k hk j' hj' hu'
    rw [eQ k (by omega)] at hj' hu' ⊢
    obtain ⟨h1, h2⟩ := h.done k hk j' hj' hu'
    have hpp := (hN (Q k) (h.qn k (by omega)) j' hj').1
    rw [grow _ hpp h1, eD k (by omega)]
    exact ⟨h1, h2⟩
  · intro _ j' hj' hu'
    rw [eQ i hi] at hu' ⊢
    by_cases e : j' = j
    · subst e
      rw [← hx, eDx, eD i hi]; omega
    · obtain ⟨h1, h2⟩ := h.cur hi j' (by omega) hu'
      have hpp := (hN (Q i) hqi j' (by omega)).1
      rw [grow _ hpp h1, eD i hi]
      exact ⟨h1, h2⟩

theorem BfsInv.next {N : Net} {s i j : Nat} {D V : Nat → Int} {q : Nat} {Q : Nat → Nat} (h : BfsInv N s i j D V q Q) (hi : i < q) (hj : N.PL (Q i) ≤ j) : BfsInv N s (i + 1) 0 D V q Q := by
  refine { h with ile := by omega, span := ?_, done := ?_, cur := fun _ j' hj' => by omega }
  · intro k hk hi1
    have h1 := h.span k hk hi
    have h2 := h.mono i (i + 1) (by omega) hi1
    omega
  · intro k hk j' hj' hu
    by_cases e : k = i
    · subst e; exact h.cur hi j' (by omega) hu
    · exact h.done k (by omega) j' hj' hu

/-- What a search from s leaves. -/
structure Reached (N : Net) (s : Nat) (D V : Nat → Int) (q : Nat) (Q : Nat → Nat) : Prop where
  hs : s < N.n
  q1 : 1 ≤ q
  qle : q ≤ N.n
  Q0 : Q 0 = s
  qn : ∀ k, k < q → Q k < N.n
  inj : ∀ k k', k < q → k' < q → Q k = Q k' → k = k'
  mem : ∀ v, v < N.n → (0 ≤ D v ↔ ∃ k, k < q ∧ Q k = v)
  neg : ∀ v, v < N.n → -1 ≤ D v
  Ds : D s = 0
  mono : ∀ k k', k ≤ k' → k' < q → D (Q k) ≤ D (Q k')
  lt : ∀ v, v < N.n → D v < N.n
  par : ∀ v, v < N.n → 0 ≤ D v → v ≠ s → ∃ u, u < N.n ∧ ∃ j, j < N.PL u ∧ N.peer u j = v ∧ V v = N.link u j ∧ D v = D u + 1 ∧ 0 ≤ D u ∧ N.use u j
  edge : ∀ u, u < N.n → 0 ≤ D u → ∀ j, j < N.PL u → N.use u j → 0 ≤ D (N.peer u j) ∧ D (N.peer u j) ≤ D u + 1

theorem BfsInv.finish {N : Net} {s i j : Nat} {D V : Nat → Int} {q : Nat} {Q : Nat → Nat} (h : BfsInv N s i j D V q Q) (hi : ¬ i < q) : Reached N s D V q Q := by
  refine ⟨h.hs, h.q1, h.qle, h.Q0, h.qn, h.inj, h.mem, h.neg, h.Ds, h.mono, ?_, ?_, ?_⟩
  · intro v hv
    by_cases h0 : 0 ≤ D v
    · obtain ⟨k, hk, hq⟩ := (h.mem v hv).1 h0
      have h1 := h.dk k hk
      have h2 := h.qle
      rw [hq] at h1; omega
    · have := h.qle; have := h.q1; omega
  · intro v hv h0 hvs
    obtain ⟨k, hk, hq⟩ := (h.mem v hv).1 h0
    have hk0 : 0 < k := by
      rcases Nat.eq_zero_or_pos k with e | e
      · subst e; rw [h.Q0] at hq; exact absurd hq.symm hvs
      · exact e
    obtain ⟨k', hk', j', hj', hpe, hV, hD, hu⟩ := h.par k hk hk0
    rw [hq] at hpe hV hD
    exact ⟨Q k', h.qn k' (by omega), j', hj', hpe, hV, hD, (h.mem _ (h.qn k' (by omega))).2 ⟨k', by omega, rfl⟩, hu⟩
  · intro u hu h0 j' hj' huse
    obtain ⟨k, hk, hq⟩ := (h.mem u hu).1 h0
    have := h.done k (by omega) j' (by rw [hq]; exact hj') (by rw [hq]; exact huse)
    rw [hq] at this
    exact this

end Go.Proofs.Qxb6608983a
