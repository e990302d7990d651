import Derived.Test.Qxb6608983aTc
import Derived.Test.Qxb6608983aJt
namespace Go.Proofs.Qxb6608983a
set_option linter.unusedVariables false
set_option linter.unusedSimpArgs false

/-! ### Counting out by distance -/

/-- How much nearer q is than the farthest. -/
def key (e : Nat) (d : Nat → Int) (q : Nat) : Nat := ((e : Int) - d q).toNat
def isK (e : Nat) (d : Nat → Int) (k q : Nat) : Bool := decide (0 ≤ d q) && (key e d q == k)
def ltK (e : Nat) (d : Nat → Int) (k q : Nat) : Bool := decide (0 ≤ d q) && decide (key e d q < k)
def eqs (e : Nat) (d : Nat → Int) (p k : Nat) : Nat := cnt p (isK e d k)
def bel (n e : Nat) (d : Nat → Int) (k : Nat) : Nat := cnt n (ltK e d k)
def pos (n e : Nat) (d : Nat → Int) (q : Nat) : Nat := bel n e d (key e d q) + eqs e d q (key e d q)
def cntA (e : Nat) (d : Nat → Int) (p : Nat) : Nat → Nat
  | 0 => 0
  | k + 1 => eqs e d p k

theorem bel_zero (n e : Nat) (d : Nat → Int) : bel n e d 0 = 0 := by
  unfold bel
  induction n with
  | zero => rfl
  | succ n ih => rw [cnt_succ, ih]; simp [ltK]
theorem bel_succ (n e : Nat) (d : Nat → Int) (k : Nat) : bel n e d (k + 1) = bel n e d k + eqs e d n k := by
  refine cnt_add ?_
  intro q _
  unfold ltK isK
  by_cases h0 : 0 ≤ d q
  · by_cases h1 : key e d q = k
    · simp [h0, h1]
    · by_cases h2 : key e d q < k
      · simp [h0, h1, h2, show key e d q < k + 1 by omega]
      · simp [h0, h1, h2, show ¬ key e d q < k + 1 by omega]
  · simp [h0]
theorem bel_mono (n e : Nat) (d : Nat → Int) {k k' : Nat} (h : k ≤ k') : bel n e d k ≤ bel n e d k' := by
  induction h with
  | refl => exact Nat.le_refl _
  | step _ ih => rw [bel_succ]; omega
theorem bel_le (n e : Nat) (d : Nat → Int) (k : Nat) : bel n e d k ≤ n := cnt_le _ _
theorem eqs_succ (e : Nat) (d : Nat → Int) (p k : Nat) : eqs e d (p + 1) k = eqs e d p k + if isK e d k p then 1 else 0 := rfl
theorem eqs_mono (e : Nat) (d : Nat → Int) (k : Nat) {p p' : Nat} (h : p ≤ p') : eqs e d p k ≤ eqs e d p' k := by
  induction h with
  | refl => exact Nat.le_refl _
  | step _ ih => rw [eqs_succ]; omega
theorem isK_self (e : Nat) (d : Nat → Int) (p : Nat) (h : 0 ≤ d p) : isK e d (key e d p) p = true := by simp [isK, h]
theorem eqs_lt (e : Nat) (d : Nat → Int) {p p' : Nat} (h : p < p') (h0 : 0 ≤ d p) : eqs e d p (key e d p) < eqs e d p' (key e d p) := by
  have h1 := eqs_mono e d (key e d p) (show p + 1 ≤ p' from h)
  rw [eqs_succ, isK_self e d p h0] at h1
  simp at h1
  omega
theorem pos_lt {n e : Nat} {d : Nat → Int} {p : Nat} (hp : p < n) (h0 : 0 ≤ d p) : pos n e d p < bel n e d (key e d p + 1) := by
  rw [bel_succ]
  have := eqs_lt e d hp h0
  unfold pos
  omega
theorem pos_lt_n {n e : Nat} {d : Nat → Int} {p : Nat} (hp : p < n) (h0 : 0 ≤ d p) : pos n e d p < n := Nat.lt_of_lt_of_le (pos_lt hp h0) (bel_le _ _ _ _)
theorem pos_inj {n e : Nat} {d : Nat → Int} {p q : Nat} (hp : p < n) (hqp : q < p) (h0 : 0 ≤ d p) (h1 : 0 ≤ d q) : pos n e d q ≠ pos n e d p := by
  have a1 := pos_lt (e := e) hp h0
  have a2 := pos_lt (e := e) (show q < n by omega) h1
  rcases Nat.lt_trichotomy (key e d q) (key e d p) with h | h | h
  · have := bel_mono n e d (show key e d q + 1 ≤ key e d p from h)
    have : bel n e d (key e d p) ≤ pos n e d p := by unfold pos; omega
    omega
  · have := eqs_lt e d hqp h1
    unfold pos
    rw [h] at this ⊢
    omega
  · have := bel_mono n e d (show key e d p + 1 ≤ key e d q from h)
    have : bel n e d (key e d q) ≤ pos n e d q := by unfold pos; omega
    omega

theorem cntA_le (e : Nat) (d : Nat → Int) (p k : Nat) : cntA e d p k ≤ p := by
  cases k with
  | zero => exact Nat.zero_le _
  | succ k => exact cnt_le _ _
theorem cntA_zero (e : Nat) (d : Nat → Int) (k : Nat) : cntA e d 0 k = 0 := by cases k <;> rfl
theorem cntA_hit (e : Nat) (d : Nat → Int) (p : Nat) (h : 0 ≤ d p) : cntA e d (p + 1) (key e d p + 1) = cntA e d p (key e d p + 1) + 1 := by
  show eqs e d (p + 1) _ = eqs e d p _ + 1
  rw [eqs_succ, isK_self e d p h]; rfl
theorem cntA_other (e : Nat) (d : Nat → Int) (p k : Nat) (h : k ≠ key e d p + 1) : cntA e d (p + 1) k = cntA e d p k := by
  cases k with
  | zero => rfl
  | succ k =>
    show eqs e d (p + 1) _ = eqs e d p _
    have : isK e d k p = false := by simp [isK]; intro _; omega
    rw [eqs_succ, this]; rfl
theorem cntA_miss (e : Nat) (d : Nat → Int) (p k : Nat) (h : d p < 0) : cntA e d (p + 1) k = cntA e d p k := by
  cases k with
  | zero => rfl
  | succ k =>
    show eqs e d (p + 1) _ = eqs e d p _
    have : isK e d k p = false := by simp [isK]; intro _; omega
    rw [eqs_succ, this]; rfl
theorem eqs_hit (e : Nat) (d : Nat → Int) (p : Nat) (h : 0 ≤ d p) : eqs e d (p + 1) (key e d p) = eqs e d p (key e d p) + 1 := cntA_hit e d p h
theorem eqs_other (e : Nat) (d : Nat → Int) (p k : Nat) (h : k ≠ key e d p) : eqs e d (p + 1) k = eqs e d p k := cntA_other e d p (k + 1) (by omega)
theorem eqs_miss (e : Nat) (d : Nat → Int) (p k : Nat) (h : d p < 0) : eqs e d (p + 1) k = eqs e d p k := cntA_miss e d p (k + 1) h
theorem cntA_bel (n e : Nat) (d : Nat → Int) (k : Nat) : cntA e d n (k + 1) + bel n e d k = bel n e d (k + 1) := by
  rw [bel_succ]; show eqs e d n k + _ = _; omega

/-- Phase one: the first p are counted. -/
def OrdA (e : Nat) (d : Nat → Int) (p : Nat) (g : Nat → Int) : Prop := ∀ k, k < e + 2 → g k = (cntA e d p k : Nat)
/-- Phase two: summed up to D. -/
def OrdB (n e : Nat) (d : Nat → Int) (x : Nat) (g : Nat → Int) : Prop := ∀ k, k < e + 2 → g k = ((if k < x then bel n e d k else cntA e d n k : Nat) : Nat)
/-- Phase three: the first p are laid. -/
def OrdC (n e : Nat) (d : Nat → Int) (p : Nat) (g : Nat → Int) : Prop := ∀ k, k ≤ e → g k = ((bel n e d k + eqs e d p k : Nat) : Nat)

theorem key_le {n e : Nat} {d : Nat → Int} {p : Nat} (hd : 0 ≤ d p) : key e d p ≤ e := by unfold key; omega
theorem key_eq {e : Nat} {d : Nat → Int} {p : Nat} (hd : 0 ≤ d p) (hle : d p ≤ e) : (e : Int) - d p = (key e d p : Nat) := by unfold key; omega

theorem OrdA.hit {e : Nat} {d : Nat → Int} {p : Nat} {g : Nat → Int} (h : OrdA e d p g) (h0 : 0 ≤ d p) : OrdA e d (p + 1) (upd g (key e d p + 1) (g (key e d p + 1) + 1)) := by
  intro k hk
  by_cases ek : k = key e d p + 1
  · subst ek
    rw [upd_same, cntA_hit e d p h0, h _ hk]; omega
  · rw [upd_ne _ _ _ _ ek, cntA_other e d p k ek]; exact h k hk
theorem OrdA.miss {e : Nat} {d : Nat → Int} {p : Nat} {g : Nat → Int} (h : OrdA e d p g) (h0 : d p < 0) : OrdA e d (p + 1) g := by
  intro k hk
  rw [cntA_miss e d p k h0]; exact h k hk
theorem OrdA.sum {n e : Nat} {d : Nat → Int} {g : Nat → Int} (h : OrdA e d n g) : OrdB n e d 1 g := by
  intro k hk
  rw [h k hk]
  by_cases ek : k < 1
  · obtain rfl : k = 0 := by omega
    simp [bel_zero, cntA]
  · simp [ek]
theorem OrdB.step {n e : Nat} {d : Nat → Int} {x : Nat} {g : Nat → Int} (h : OrdB n e d (x + 1) g) (hx : x + 1 < e + 2) : OrdB n e d (x + 2) (upd g (x + 1) (g (x + 1) + g x)) := by
  intro k hk
  by_cases ek : k = x + 1
  · subst ek
    rw [upd_same, h _ hk, h x (by omega)]
    simp
    have := cntA_bel n e d x
    omega
  · rw [upd_ne _ _ _ _ ek, h k hk]
    by_cases e2 : k < x + 1
    · simp [e2, show k < x + 2 by omega]
    · simp [e2, show ¬ k < x + 2 by omega]
theorem OrdB.done {n e : Nat} {d : Nat → Int} {g : Nat → Int} (h : OrdB n e d (e + 2) g) : OrdC n e d 0 g := by
  intro k hk
  rw [h k (by omega)]
  simp [show k < e + 2 by omega, eqs, cnt]
theorem OrdC.hit {n e : Nat} {d : Nat → Int} {p : Nat} {g : Nat → Int} (h : OrdC n e d p g) (h0 : 0 ≤ d p) : OrdC n e d (p + 1) (upd g (key e d p) (g (key e d p) + 1)) := by
  intro k hk
  by_cases ek : k = key e d p
  · subst ek
    rw [upd_same, eqs_hit e d p h0, h _ hk]; omega
  · rw [upd_ne _ _ _ _ ek, eqs_other e d p k ek]; exact h k hk
theorem OrdC.miss {n e : Nat} {d : Nat → Int} {p : Nat} {g : Nat → Int} (h : OrdC n e d p g) (h0 : d p < 0) : OrdC n e d (p + 1) g := by
  intro k hk
  rw [eqs_miss e d p k h0]; exact h k hk
theorem OrdC.at_ {n e : Nat} {d : Nat → Int} {p : Nat} {g : Nat → Int} (h : OrdC n e d p g) (h0 : 0 ≤ d p) : g (key e d p) = (pos n e d p : Nat) := h _ (key_le (n := n) h0)
theorem OrdC.total {n e : Nat} {d : Nat → Int} {g : Nat → Int} (h : OrdC n e d n g) : g e = (bel n e d (e + 1) : Nat) := by
  rw [h e (Nat.le_refl _), bel_succ]

/-- The first p are laid: G holds each where it belongs. -/
structure Laid (n e : Nat) (d : Nat → Int) (p : Nat) (G : Nat → Nat) : Prop where
  lt : ∀ i, i < n → G i < n
  at_ : ∀ q, q < p → 0 ≤ d q → G (pos n e d q) = q

theorem Laid.hit {n e : Nat} {d : Nat → Int} {p : Nat} {G : Nat → Nat} (h : Laid n e d p G) (hp : p < n) (h0 : 0 ≤ d p) : Laid n e d (p + 1) (upd G (pos n e d p) p) := by
  refine ⟨?_, ?_⟩
  · intro i hi
    by_cases ei : i = pos n e d p
    · subst ei; rw [upd_same]; exact hp
    · rw [upd_ne _ _ _ _ ei]; exact h.lt i hi
  · intro q hq hq0
    by_cases eq : q = p
    · subst eq; exact upd_same _ _ _
    · rw [upd_ne _ _ _ _ (pos_inj hp (by omega) h0 hq0)]
      exact h.at_ q (by omega) hq0
theorem Laid.miss {n e : Nat} {d : Nat → Int} {p : Nat} {G : Nat → Nat} (h : Laid n e d p G) (h0 : d p < 0) : Laid n e d (p + 1) G := by
  refine ⟨h.lt, ?_⟩
  intro q hq hq0
  by_cases eq : q = p
  · subst eq; omega
  · exact h.at_ q (by omega) hq0
theorem pos_lt_total {n e : Nat} {d : Nat → Int} {p : Nat} (hp : p < n) (h0 : 0 ≤ d p) : pos n e d p < bel n e d (e + 1) := by
  have := pos_lt (e := e) hp h0
  have := bel_mono n e d (show key e d p + 1 ≤ e + 1 by have := key_le (n := n) (e := e) h0; omega)
  omega

/-! ### Judging -/

/-- What the judge knows: the worst so far, the bounds U; the first i of the order are done. -/
structure Jg (n r : Nat) (δ : Nat → Nat → Int) (dia worst : Int) (U : Nat → Int) : Prop where
  w0 : dia ≤ worst
  wn : 0 ≤ worst
  wmax : worst = dia ∨ ∃ u v, u < n ∧ v < n ∧ 0 ≤ δ r u ∧ 0 ≤ δ r v ∧ worst = δ u v
  up : ∀ v, v < n → 0 ≤ δ r v → ∀ u, u < n → 0 ≤ δ r u → δ v u ≤ U v
  un : ∀ v, v < n → δ r v < 0 → U v = 0

/-- Every one that is reached and stands before i is within the worst. -/
def Dn (n r : Nat) (δ : Nat → Nat → Int) (P : Nat → Nat) (i : Nat) (worst : Int) : Prop := ∀ p, p < n → 0 ≤ δ r p → P p < i → ∀ u, u < n → 0 ≤ δ r u → δ p u ≤ worst

/-- x is how far the farthest is from p. -/
structure Ecc (n r : Nat) (δ : Nat → Nat → Int) (p : Nat) (x : Int) : Prop where
  le : ∀ u, u < n → 0 ≤ δ r u → δ p u ≤ x
  is : ∃ u, u < n ∧ 0 ≤ δ r u ∧ x = δ p u

theorem Ecc.of {N : Net} {E : Nat → Nat → Prop} {r p : Nat} {δ : Nat → Nat → Int} {D V : Nat → Int} {q : Nat} {Q : Nat → Nat} (h : Reached N p D V q Q) (hδ : ∀ i, i < N.n → IsDist E N.n i (δ i)) (hD : IsDist E N.n p D) (hr : r < N.n) (hp : p < N.n) (h0 : 0 ≤ δ r p) (hsym : ∀ u v, E u v → E v u) :
    Ecc N.n r δ p (D (Q (q - 1))) ∧ (∀ v, v < N.n → D v = δ p v) ∧ (∀ v, v < N.n → (0 ≤ D v ↔ 0 ≤ δ r v)) ∧ 0 ≤ D (Q (q - 1)) ∧ D (Q (q - 1)) < N.n := by
  have e : ∀ v, v < N.n → D v = δ p v := hD.unique (hδ p hp)
  have hsy := (hδ r hr).sym (hδ p hp) hsym h0
  have hiff : ∀ v, v < N.n → (0 ≤ D v ↔ 0 ≤ δ r v) := by
    intro v hv
    rw [e v hv]
    constructor
    · intro h1; exact ((hδ r hr).tri (hδ p hp) h0 v hv h1).1
    · intro h1; exact ((hδ p hp).tri (hδ r hr) (by omega) v hv h1).1
  have hq1 := h.q1
  have hl := h.qn (q - 1) (by omega)
  have hl0 : 0 ≤ D (Q (q - 1)) := (h.mem _ hl).2 ⟨q - 1, by omega, rfl⟩
  refine ⟨⟨?_, Q (q - 1), hl, (hiff _ hl).1 hl0, e _ hl⟩, e, hiff, hl0, h.lt _ hl⟩
  intro u hu h1
  rw [← e u hu]
  exact h.last_max u hu ((hiff u hu).2 h1)

theorem Jg.start {n r : Nat} {E : Nat → Nat → Prop} {δ : Nat → Nat → Int} {dia x : Int} (hδ : ∀ i, i < n → IsDist E n i (δ i)) (hsym : ∀ u v, E u v → E v u) (hr : r < n) (hx : Ecc n r δ r x) (h0 : 0 ≤ x) (U : Nat → Int)
    (hU : ∀ v, v < n → U v = if 0 ≤ δ r v then x + δ r v else 0) : Jg n r δ dia (max dia x) U := by
  refine ⟨by omega, by omega, ?_, ?_, ?_⟩
  · obtain ⟨u, hu, hu0, e⟩ := hx.is
    by_cases hd : x ≤ dia
    · exact .inl (by omega)
    · exact .inr ⟨r, u, hr, hu, by rw [(hδ r hr).zero]; omega, hu0, by omega⟩
  · intro v hv hv0 u hu hu0
    rw [hU v hv, if_pos hv0]
    have hs := (hδ r hr).sym (hδ v hv) hsym hv0
    have ht := ((hδ v hv).tri (hδ r hr) (by omega) u hu hu0).2
    have := hx.le u hu hu0
    omega
  · intro v hv hv0
    rw [hU v hv, if_neg (by omega)]

/-- p is searched, and is the worst. -/
theorem Jg.raise {n r : Nat} {δ : Nat → Nat → Int} {dia worst x : Int} {U : Nat → Int} (h : Jg n r δ dia worst U) {p : Nat} (hp : p < n) (h0 : 0 ≤ δ r p) (hx : Ecc n r δ p x) : Jg n r δ dia (max worst x) U := by
  have a := h.w0
  have b := h.wn
  refine ⟨by omega, by omega, ?_, h.up, h.un⟩
  by_cases hw : x ≤ worst
  · rw [show max worst x = worst by omega]; exact h.wmax
  · obtain ⟨u, hu, hu0, e⟩ := hx.is
    exact .inr ⟨p, u, hp, hu, h0, hu0, by omega⟩

/-- The bounds of the first j are lowered by a search from p. -/
theorem Jg.lower {n r : Nat} {E : Nat → Nat → Prop} {δ : Nat → Nat → Int} {dia worst x : Int} {U : Nat → Int} (h : Jg n r δ dia worst U) (hδ : ∀ i, i < n → IsDist E n i (δ i)) (hsym : ∀ u v, E u v → E v u) (hr : r < n) {p j : Nat} (hp : p < n) (h0 : 0 ≤ δ r p) (hx : Ecc n r δ p x) (hj : j < n) (hj0 : 0 ≤ δ r j) :
    Jg n r δ dia worst (upd U j (min (U j) (x + δ p j))) := by
  refine ⟨h.w0, h.wn, h.wmax, ?_, ?_⟩
  · intro v hv hv0 u hu hu0
    by_cases e : v = j
    · subst e
      rw [upd_same]
      have h1 := h.up v hv hv0 u hu hu0
      have hs1 := (hδ r hr).sym (hδ p hp) hsym h0
      have hpv := ((hδ p hp).tri (hδ r hr) (by omega) v hv hv0).1
      have hs := (hδ p hp).sym (hδ v hv) hsym hpv
      have hpu := ((hδ p hp).tri (hδ r hr) (by omega) u hu hu0).1
      have ht := ((hδ v hv).tri (hδ p hp) (by omega) u hu hpu).2
      have := hx.le u hu hu0
      omega
    · rw [upd_ne _ _ _ _ e]; exact h.up v hv hv0 u hu hu0
  · intro v hv hv0
    by_cases e : v = j
    · subst e; omega
    · rw [upd_ne _ _ _ _ e]; exact h.un v hv hv0

theorem Dn.mono {n r : Nat} {δ : Nat → Nat → Int} {P : Nat → Nat} {i : Nat} {worst worst' : Int} (h : Dn n r δ P i worst) (hw : worst ≤ worst') : Dn n r δ P i worst' :=
  fun p hp h0 hi u hu hu0 => Int.le_trans (h p hp h0 hi u hu hu0) hw
theorem Dn.zero {n r : Nat} {δ : Nat → Nat → Int} {P : Nat → Nat} {worst : Int} : Dn n r δ P 0 worst := fun p hp h0 hi => by omega
/-- The i-th is within its bound, or was searched. -/
theorem Dn.next {n r : Nat} {δ : Nat → Nat → Int} {P G : Nat → Nat} {i : Nat} {worst : Int} (h : Dn n r δ P i worst) (hG : ∀ q, q < n → 0 ≤ δ r q → G (P q) = q) (hi : ∀ u, u < n → 0 ≤ δ r u → 0 ≤ δ r (G i) → δ (G i) u ≤ worst) : Dn n r δ P (i + 1) worst := by
  intro p hp h0 hlt u hu hu0
  by_cases e : P p = i
  · have := hG p hp h0
    rw [e] at this
    have h1 := hi u hu hu0 (by rw [this]; exact h0)
    rw [this] at h1
    exact h1
  · exact h p hp h0 (by omega) u hu hu0

/-- The judge's answer and the table's are one. -/
theorem Jg.law {n r : Nat} {E : Nat → Nat → Prop} {δ : Nat → Nat → Int} {dia worst W : Int} {U : Nat → Int} (h : Jg n r δ dia worst U) (hd : ∀ p, p < n → 0 ≤ δ r p → ∀ u, u < n → 0 ≤ δ r u → δ p u ≤ worst)
    (h0 : 0 ≤ W) (h1 : ∀ p u, p < n → u < n → 0 ≤ δ r p → 0 ≤ δ r u → δ p u ≤ W) (h2 : W = 0 ∨ ∃ p u, p < n ∧ u < n ∧ 0 ≤ δ r p ∧ 0 ≤ δ r u ∧ W = δ p u) : worst = if W < dia then dia else W := by
  have a := h.w0
  have b := h.wn
  have c : W ≤ worst := by
    rcases h2 with e | ⟨p, u, hp, hu, p0, u0, e⟩
    · omega
    · rw [e]; exact hd p hp p0 u hu u0
  rcases h.wmax with e | ⟨u, v, hu, hv, u0, v0, e⟩
  · split <;> omega
  · have := h1 u v hu hv u0 v0
    split <;> omega

end Go.Proofs.Qxb6608983a
