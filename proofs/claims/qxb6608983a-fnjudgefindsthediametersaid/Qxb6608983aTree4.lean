import Derived.Test.Qxb6608983aTree3
import Derived.Test.Qxb6608983aLaw1b
namespace Go.Proofs.Qxb6608983a
set_option linter.unusedVariables false
set_option linter.unusedSimpArgs false

theorem Reached.last_max {N : Net} {s : Nat} {D V : Nat → Int} {q : Nat} {Q : Nat → Nat} (h : Reached N s D V q Q) : ∀ v, v < N.n → 0 ≤ D v → D v ≤ D (Q (q - 1)) := by
  intro v hv h0
  obtain ⟨k, hk, hq⟩ := (h.mem v hv).1 h0
  rw [← hq]
  exact h.mono k (q - 1) (by omega) (by have := h.q1; omega)

/-- THE MIDDLE THAT fromMiddle BEGINS WITH IS LEFT as long as more than two are left. -/
theorem mid_centre {L : Lk} {O : Nat → Nat} {δ0 : Nat → Int} (h : MidSpec (netOf L) O) (hn : 0 < L.n) (hF : L.F 0 = false) (t : TreeAt L δ0) :
    ∀ R, (∀ r, r < R → 2 < cnt L.n (left L δ0 r)) → O 0 < L.n ∧ left L δ0 R (O 0) = true := by
  obtain ⟨D1, V1, q1, Q1, D2, V2, q2, Q2, mid, P1, D, V, q, Q, hR1, hR2, hup, hR, hO⟩ := h
  have hE := netOf_E L
  have d1 := hR1.isDist (E := L.E) hF hE
  have eD := d1.unique t.d0
  have hu := hR1.qn (q1 - 1) (by have := hR1.q1; omega)
  have hu0 : 0 ≤ D1 (Q1 (q1 - 1)) := (hR1.mem _ hu).2 ⟨q1 - 1, by have := hR1.q1; omega, rfl⟩
  have hFu := hR1.ok hF _ hu hu0
  have d2 := hR2.isDist (E := L.E) hFu hE
  obtain ⟨u, hue⟩ : ∃ u, u = Q1 (q1 - 1) := ⟨_, rfl⟩
  rw [← hue] at hu hu0 hFu d2 hR2
  have hm := hR2.qn (q2 - 1) (by have := hR2.q1; omega)
  have hm0 : 0 ≤ D2 (Q2 (q2 - 1)) := (hR2.mem _ hm).2 ⟨q2 - 1, by have := hR2.q1; omega, rfl⟩
  have hmaxu := hR2.last_max
  have hmax := hR1.last_max
  rw [← hue] at hmax
  obtain ⟨m0, hme⟩ : ∃ u, u = Q2 (q2 - 1) := ⟨_, rfl⟩
  rw [← hme] at hm hm0 hmaxu hup
  have hu' : u < L.n := hu
  have hu00 : 0 ≤ δ0 u := by rw [← eD u hu]; exact hu0
  have hmax0 : ∀ v, v < L.n → 0 ≤ δ0 v → δ0 v ≤ δ0 u := by
    intro v hv h0
    rw [← eD v hv] at h0 ⊢
    rw [← eD u hu]
    exact hmax v hv h0
  obtain ⟨hh, hhe⟩ : ∃ x, x = (D2 m0 / 2).toNat := ⟨_, rfl⟩
  rw [← hhe] at hup
  have few := t.few d2 hu00 hmax0 hm hm0 hmaxu hhe
  have hmid := hup.at_ hh (Nat.le_refl _)
  rw [hup.last] at hmid
  -- the way from the middle on to u
  obtain ⟨R2, r0, r1, r2⟩ := d2.path (D2 mid).toNat mid hmid.1 (by omega)
  have hK : ((D2 m0).toNat : Int) = D2 m0 := by omega
  have hPE : ∀ j, j < hh → L.E (P1 (j + 1)) (P1 j) := by
    intro j hj
    obtain ⟨x, hx, hp, huse⟩ := hup.step j hj
    have a1 := hup.at_ (j + 1) (by omega)
    have a0 := hup.at_ j (by omega)
    exact (hE _ _ a1.1 a0.1).2 ⟨hR2.ok hFu _ a1.1 a1.2.1, x, hx, hp, huse⟩
  have st := t.stays d2 hu00 (K := (D2 m0).toNat) (P := fun j => if j ≤ hh then P1 j else R2 (j - hh)) (by
    intro j hj
    by_cases e : j ≤ hh
    · simp only [e, if_true]
      have := hup.at_ j e
      exact ⟨this.1, by omega⟩
    · simp only [e, if_false]
      have := r1 (j - hh) (by omega)
      exact ⟨this.1, by omega⟩) (by
    intro j hj
    by_cases e : j + 1 ≤ hh
    · have e' : j ≤ hh := by omega
      simp only [e, e', if_true]
      exact hPE j (by omega)
    · by_cases e2 : j ≤ hh
      · have e3 : j = hh := by omega
        subst e3
        simp only [e, Nat.le_refl, if_true, if_false]
        rw [hup.last, ← r0]
        have := r2 0 (by omega)
        rw [show j + 1 - j = 0 + 1 by omega]
        exact this
      · simp only [e, e2, if_false]
        have := r2 (j - hh) (by omega)
        rw [show j + 1 - hh = j - hh + 1 by omega]
        exact this)
  intro R hR'
  have hRh : R ≤ hh := by
    rcases Nat.lt_or_ge hh R with h1 | h1
    · have := hR' hh h1; omega
    · exact h1
  have e0 : O 0 = mid := by rw [hO.head 0 (by have := hR.q1; omega), hR.Q0]
  have := st R hh hRh (by omega)
  simp only [Nat.le_refl, if_true] at this
  rw [hup.last] at this
  rw [e0]
  exact ⟨hmid.1, this⟩

end Go.Proofs.Qxb6608983a
