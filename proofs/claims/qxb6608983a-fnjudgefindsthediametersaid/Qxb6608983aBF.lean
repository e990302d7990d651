import Derived.Test.Qxb6608983aUse
namespace Go.Proofs.Qxb6608983a
set_option linter.unusedVariables false
set_option linter.unusedSimpArgs false

/-- Half a link: link h / 2, one way or the other. -/
def Lk.src (L : Lk) (h : Nat) : Nat := if h % 2 = 0 then L.f (h / 2) else L.g (h / 2)
def Lk.dst (L : Lk) (h : Nat) : Nat := if h % 2 = 0 then L.g (h / 2) else L.f (h / 2)

/-- Relaxing under way: r rounds are done, of the next one h half links. -/
structure BF (L : Lk) (δ : Nat → Int) (r h : Nat) (d : Nat → Int) (ch : Bool) : Prop where
  low : ∀ v, v < L.n → -1 ≤ d v ∧ (0 ≤ d v → 0 ≤ δ v ∧ δ v ≤ d v)
  bnd : ∀ v, v < L.n → d v ≤ r * 8192 + h
  conv : ∀ v, v < L.n → 0 ≤ δ v → δ v ≤ r → d v = δ v
  part : ∀ k, k < h → L.us (k / 2) = true → 0 ≤ δ (L.src k) → δ (L.src k) ≤ r → 0 ≤ d (L.dst k) ∧ d (L.dst k) ≤ δ (L.src k) + 1
  still : ch = false → ∀ k, k < h → L.us (k / 2) = true → 0 ≤ d (L.src k) → 0 ≤ d (L.dst k) ∧ d (L.dst k) ≤ d (L.src k) + 1

theorem Lk.E_half (L : Lk) {k : Nat} (hk : k / 2 < L.m) (hu : L.us (k / 2) = true) : L.E (L.src k) (L.dst k) := by
  refine ⟨k / 2, hk, hu, ?_⟩
  unfold Lk.src Lk.dst
  split
  · exact .inl ⟨rfl, rfl⟩
  · exact .inr ⟨rfl, rfl⟩
theorem Lk.half_E (L : Lk) {u v : Nat} (h : L.E u v) : ∃ k, k < 2 * L.m ∧ L.us (k / 2) = true ∧ L.src k = u ∧ L.dst k = v := by
  obtain ⟨l, hl, hu, h | h⟩ := h
  · refine ⟨2 * l, by omega, by rw [show 2 * l / 2 = l by omega]; exact hu, ?_, ?_⟩
    · simp [Lk.src, h.1]
    · simp [Lk.dst, h.2]
  · refine ⟨2 * l + 1, by omega, by rw [show (2 * l + 1) / 2 = l by omega]; exact hu, ?_, ?_⟩
    · simp [Lk.src, show (2 * l + 1) / 2 = l by omega, show (2 * l + 1) % 2 = 1 by omega, h.1]
    · simp [Lk.dst, show (2 * l + 1) / 2 = l by omega, show (2 * l + 1) % 2 = 1 by omega, h.2]
theorem Lk.half_lt (L : Lk) (hf : ∀ i, i < L.m → L.f i < L.n ∧ L.g i < L.n ∧ L.f i ≠ L.g i) {k : Nat} (hk : k / 2 < L.m) : L.src k < L.n ∧ L.dst k < L.n ∧ L.src k ≠ L.dst k := by
  obtain ⟨h1, h2, h3⟩ := hf _ hk
  unfold Lk.src Lk.dst
  split
  · exact ⟨h1, h2, h3⟩
  · exact ⟨h2, h1, fun e => h3 e.symm⟩

theorem BF.skip {L : Lk} {δ : Nat → Int} {r h : Nat} {d : Nat → Int} {ch : Bool} (b : BF L δ r h d ch) (hu : L.us (h / 2) = false) (h2 : h % 2 = 0) : BF L δ r (h + 2) d ch := by
  refine ⟨b.low, fun v hv => by have := b.bnd v hv; omega, b.conv, ?_, ?_⟩
  · intro k hk huk
    by_cases e : k / 2 = h / 2
    · rw [e, hu] at huk; cases huk
    · exact b.part k (by omega) huk
  · intro hc k hk huk
    by_cases e : k / 2 = h / 2
    · rw [e, hu] at huk; cases huk
    · exact b.still hc k (by omega) huk

theorem BF.rest {L : Lk} {δ : Nat → Int} {r h : Nat} {d : Nat → Int} {ch : Bool} (b : BF L δ r h d ch) (hf : ∀ i, i < L.m → L.f i < L.n ∧ L.g i < L.n ∧ L.f i ≠ L.g i) (hm : h / 2 < L.m)
    (hc : ¬ (0 ≤ d (L.src h) ∧ (d (L.dst h) < 0 ∨ d (L.src h) + 1 < d (L.dst h)))) : BF L δ r (h + 1) d ch := by
  obtain ⟨h1, h2, _⟩ := L.half_lt hf hm
  refine ⟨b.low, fun v hv => by have := b.bnd v hv; omega, b.conv, ?_, ?_⟩
  · intro k hk huk h0 hr
    by_cases e : k = h
    · subst e
      have := b.conv _ h1 h0 hr
      omega
    · exact b.part k (by omega) huk h0 hr
  · intro hc' k hk huk h0
    by_cases e : k = h
    · subst e; omega
    · exact b.still hc' k (by omega) huk h0

theorem BF.relax {L : Lk} {δ : Nat → Int} {r h : Nat} {d : Nat → Int} {ch : Bool} {s : Nat} (b : BF L δ r h d ch) (hδ : IsDist L.E L.n s δ) (hf : ∀ i, i < L.m → L.f i < L.n ∧ L.g i < L.n ∧ L.f i ≠ L.g i) (hm : h / 2 < L.m)
    (hu : L.us (h / 2) = true) (h0 : 0 ≤ d (L.src h)) (hc : d (L.dst h) < 0 ∨ d (L.src h) + 1 < d (L.dst h)) : BF L δ r (h + 1) (upd d (L.dst h) (d (L.src h) + 1)) true := by
  obtain ⟨h1, h2, h3⟩ := L.half_lt hf hm
  obtain ⟨x, hx⟩ : ∃ x, x = L.src h := ⟨_, rfl⟩
  obtain ⟨y, hy⟩ : ∃ y, y = L.dst h := ⟨_, rfl⟩
  have hE := L.E_half hm hu
  rw [← hx] at h0 hc h1 h3 hE ⊢
  rw [← hy] at hc h2 h3 hE ⊢
  have hlx := b.low x h1
  have hly := b.low y h2
  obtain ⟨e1, e2⟩ := hδ.edge x y h1 h2 hE (hlx.2 h0).1
  have mono : ∀ v, v < L.n → 0 ≤ d v → 0 ≤ upd d y (d x + 1) v ∧ upd d y (d x + 1) v ≤ d v := by
    intro v hv hd
    by_cases e : v = y
    · subst e; rw [upd_same]; omega
    · rw [upd_ne _ _ _ _ e]; omega
  refine ⟨?_, ?_, ?_, ?_, ?_⟩
  · intro v hv
    by_cases e : v = y
    · subst e; rw [upd_same]; have := hlx.2 h0; omega
    · rw [upd_ne _ _ _ _ e]; exact b.low v hv
  · intro v hv
    by_cases e : v = y
    · subst e; rw [upd_same]; have := b.bnd x h1; omega
    · rw [upd_ne _ _ _ _ e]; have := b.bnd v hv; omega
  · intro v hv g0 gr
    by_cases e : v = y
    · subst e
      have := b.conv v hv g0 gr
      have := hlx.2 h0
      rw [upd_same]; omega
    · rw [upd_ne _ _ _ _ e]; exact b.conv v hv g0 gr
  · intro k hk huk g0 gr
    by_cases e : k = h
    · subst e
      rw [← hx] at g0 gr ⊢
      rw [← hy, upd_same]
      have := b.conv x h1 g0 gr
      omega
    · obtain ⟨p1, p2⟩ := b.part k (by omega) huk g0 gr
      have hkd := (L.half_lt hf (k := k) (by omega)).2.1
      have := mono _ hkd p1
      omega
  · intro hc'; cases hc'

/-- Between two rounds. -/
structure BFH (L : Lk) (δ : Nat → Int) (r : Nat) (d : Nat → Int) (ch : Bool) : Prop where
  low : ∀ v, v < L.n → -1 ≤ d v ∧ (0 ≤ d v → 0 ≤ δ v ∧ δ v ≤ d v)
  bnd : ∀ v, v < L.n → d v ≤ r * 8192
  conv : ∀ v, v < L.n → 0 ≤ δ v → δ v ≤ r → d v = δ v
  still : ch = false → ∀ u v, L.E u v → 0 ≤ d u → 0 ≤ d v ∧ d v ≤ d u + 1

theorem BFH.start {L : Lk} {δ : Nat → Int} {s : Nat} (hδ : IsDist L.E L.n s δ) : BFH L δ 0 (upd (fun _ => -1) s 0) true := by
  refine ⟨?_, ?_, ?_, ?_⟩
  · intro v hv
    by_cases e : v = s
    · subst e; rw [upd_same, hδ.zero]; omega
    · rw [upd_ne _ _ _ _ e]; omega
  · intro v hv
    by_cases e : v = s
    · subst e; rw [upd_same]; omega
    · rw [upd_ne _ _ _ _ e]; omega
  · intro v hv h0 h1
    by_cases e : v = s
    · subst e; rw [upd_same, hδ.zero]
    · obtain ⟨u, _, _, h2, h3⟩ := hδ.par v hv h0 e
      omega
  · intro h; cases h

theorem BFH.begin {L : Lk} {δ : Nat → Int} {r : Nat} {d : Nat → Int} {ch : Bool} (b : BFH L δ r d ch) : BF L δ r 0 d false :=
  ⟨b.low, fun v hv => by have := b.bnd v hv; omega, b.conv, fun k hk => by omega, fun _ k hk => by omega⟩

theorem BF.round {L : Lk} {δ : Nat → Int} {r : Nat} {d : Nat → Int} {ch : Bool} {s : Nat} (b : BF L δ r (2 * L.m) d ch) (hδ : IsDist L.E L.n s δ) (hm : L.m ≤ 4096) : BFH L δ (r + 1) d ch := by
  refine ⟨b.low, fun v hv => by have := b.bnd v hv; omega, ?_, ?_⟩
  · intro v hv h0 h1
    by_cases e : δ v ≤ r
    · exact b.conv v hv h0 e
    · have hvs : v ≠ s := by intro e'; subst e'; rw [hδ.zero] at e; omega
      obtain ⟨u, hu, hE, g0, g1⟩ := hδ.par v hv h0 hvs
      obtain ⟨k, hk, huk, hs, hd⟩ := L.half_E hE
      have := b.part k hk huk (by rw [hs]; exact g0) (by rw [hs]; omega)
      rw [hs, hd] at this
      have := (b.low v hv).2 this.1
      omega
  · intro hc u v hE h0
    obtain ⟨k, hk, huk, hs, hd⟩ := L.half_E hE
    have := b.still hc k hk huk (by rw [hs]; exact h0)
    rw [hs, hd] at this
    exact this

theorem BFH.finish {L : Lk} {δ : Nat → Int} {r : Nat} {d : Nat → Int} {ch : Bool} {s : Nat} (b : BFH L δ r d ch) (hδ : IsDist L.E L.n s δ) (h : ch = false ∨ L.n ≤ r) : ∀ v, v < L.n → d v = δ v := by
  have key : ∀ v, v < L.n → 0 ≤ δ v → d v = δ v := by
    rcases h with h | h
    · have ind : ∀ (k v : Nat), v < L.n → δ v = k → d v = δ v := by
        intro k
        induction k with
        | zero => intro v hv hk; exact b.conv v hv (by omega) (by omega)
        | succ k ih =>
          intro v hv hk
          have hvs : v ≠ s := by intro e; subst e; rw [hδ.zero] at hk; omega
          obtain ⟨u, hu, hE, g0, g1⟩ := hδ.par v hv (by omega) hvs
          have hdu := ih u hu (by omega)
          have := b.still h u v hE (by omega)
          have := (b.low v hv).2 this.1
          omega
      intro v hv h0
      exact ind (δ v).toNat v hv (by omega)
    · intro v hv h0
      have := hδ.lt v hv
      exact b.conv v hv h0 (by omega)
  intro v hv
  by_cases h0 : 0 ≤ δ v
  · exact key v hv h0
  · have h1 := b.low v hv
    have h2 := hδ.neg v hv
    by_cases h3 : 0 ≤ d v
    · have := h1.2 h3; omega
    · omega

end Go.Proofs.Qxb6608983a
