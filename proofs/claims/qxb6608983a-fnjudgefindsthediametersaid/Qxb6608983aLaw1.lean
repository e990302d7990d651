import Derived.Test.Qxb6608983aNet
namespace Go.Proofs.Qxb6608983a
open Go.RowKit
set_option linter.unusedVariables false
set_option linter.unusedSimpArgs false

theorem IsDist.reach_trans {E : Nat → Nat → Prop} {n a c : Nat} {da dc : Nat → Int} (h : IsDist E n a da) (hc : IsDist E n c dc) (h0 : 0 ≤ dc a) : ∀ v, v < n → 0 ≤ da v → 0 ≤ dc v := by
  have ind : ∀ (k v : Nat), v < n → da v = k → 0 ≤ dc v := by
    intro k
    induction k with
    | zero =>
      intro v hv hk
      by_cases e : v = a
      · subst e; exact h0
      · obtain ⟨u, _, _, g0, g1⟩ := h.par v hv (by omega) e
        omega
    | succ k ih =>
      intro v hv hk
      by_cases e : v = a
      · subst e; exact h0
      · obtain ⟨u, hu, hE, g0, g1⟩ := h.par v hv (by omega) e
        exact (hc.edge u v hu hv hE (ih u hu (by omega))).1
  intro v hv h1
  exact ind (da v).toNat v hv (by omega)

theorem IsDist.reach_symm {E : Nat → Nat → Prop} {n a : Nat} {da : Nat → Int} (h : IsDist E n a da) (hsym : ∀ u v, E u v → E v u) : ∀ v, v < n → 0 ≤ da v → ∀ dv, IsDist E n v dv → 0 ≤ dv a := by
  have ind : ∀ (k v : Nat), v < n → da v = k → ∀ dv, IsDist E n v dv → 0 ≤ dv a := by
    intro k
    induction k with
    | zero =>
      intro v hv hk dv hdv
      by_cases e : v = a
      · subst e; rw [hdv.zero]; omega
      · obtain ⟨u, _, _, g0, g1⟩ := h.par v hv (by omega) e
        omega
    | succ k ih =>
      intro v hv hk dv hdv
      have e : v ≠ a := by intro e; subst e; rw [h.zero] at hk; omega
      obtain ⟨u, hu, hE, g0, g1⟩ := h.par v hv (by omega) e
      obtain ⟨du, hdu⟩ := dist_exists E n u hu
      have h1 := ih u hu (by omega) du hdu
      have h2 := (hdv.edge v u hv hu (hsym _ _ hE) (by rw [hdv.zero]; omega)).1
      exact hdu.reach_trans hdv h2 a h.hs h1
  intro v hv h1
  exact ind (da v).toNat v hv (by omega)

theorem Reached.ok {N : Net} {s : Nat} {D V : Nat → Int} {q : Nat} {Q : Nat → Nat} (h : Reached N s D V q Q) (hF : N.F s = false) : ∀ v, v < N.n → 0 ≤ D v → N.F v = false := by
  intro v hv h0
  by_cases e : v = s
  · subst e; exact hF
  · obtain ⟨u, hu, j, hj, hp, _, _, _, huse⟩ := h.par v hv h0 e
    have := huse.1
    rw [hp] at this; exact this

/-- What law one reads off fromMiddle's answer. -/
theorem mid_law {L : Lk} {O : Nat → Nat} (h : MidSpec (netOf L) O) (hn : 0 < L.n) (hF : L.F 0 = false) :
    ∃ δ q Q, IsDist L.E L.n (O 0) δ ∧ 0 ≤ δ 0 ∧ 1 ≤ q ∧ q ≤ L.n ∧ (∀ i, i < q → 0 ≤ δ (O i)) ∧ (∀ i j, i ≤ j → j < q → δ (O i) ≤ δ (O j)) ∧ Ordered (netOf L) δ q Q O := by
  obtain ⟨D1, V1, q1, Q1, D2, V2, q2, Q2, mid, P, D, V, q, Q, hR1, hR2, hup, hR, hO⟩ := h
  have hE := netOf_E L
  have d1 := hR1.isDist (E := L.E) hF hE
  have hu := hR1.qn (q1 - 1) (by have := hR1.q1; omega)
  have hu0 : 0 ≤ D1 (Q1 (q1 - 1)) := (hR1.mem _ hu).2 ⟨q1 - 1, by have := hR1.q1; omega, rfl⟩
  have hFu := hR1.ok hF _ hu hu0
  have d2 := hR2.isDist (E := L.E) hFu hE
  have hm := hup.at_ _ (Nat.le_refl _)
  rw [hup.last] at hm
  have hFm := hR2.ok hFu mid hm.1 hm.2.1
  have d3 := hR.isDist (E := L.E) hFm hE
  have h01 : 0 ≤ D1 mid := d2.reach_trans d1 hu0 mid hm.1 hm.2.1
  have h10 := d1.reach_symm (fun _ _ => L.E_symm) mid hm.1 h01 D d3
  have hq1 := hR.q1
  have e0 : O 0 = mid := by rw [hO.head 0 (by omega), hR.Q0]
  refine ⟨D, q, Q, by rw [e0]; exact d3, h10, hq1, hR.qle, ?_, ?_, hO⟩
  · intro i hi
    rw [hO.head i hi]
    exact (hR.mem _ (hR.qn i hi)).2 ⟨i, hi, rfl⟩
  · intro i j hij hj
    rw [hO.head i (by omega), hO.head j hj]
    exact hR.mono i j hij hj

set_option maxHeartbeats 400000 in
theorem bytes9_any (aa ab af ac : Option Addr) (la lb lf lc ca cb cf cc : Nat) (w : World) (h1 : la ≤ 9223372036854775807) (h2 : lb ≤ 9223372036854775807) (h3 : lf ≤ 9223372036854775807) (h4 : lc ≤ 9223372036854775807) :
    Calls Try.prog 9 #[.slice aa la ca, .slice ab lb cb, .slice af lf cf, .slice ac lc cc] w fun e w' => (∃ b, e = .returned (.bool b)) ∧ w = w' := by
  go_enter Try.func9, Try.ntmps9
  go_wp2
  all_goals
    go_ret
    exact ⟨⟨_, rfl⟩, rfl⟩

set_option maxHeartbeats 400000 in
theorem mid_zero (k : Wk) (ps bL : Nat) (f g : Nat → Nat) (D0 V0 : Nat → Int) (q0 : Nat) (Q0 : Nat → Nat) (w : World) (hs : WkStat k w) (hd : WkDyn k w D0 V0 q0 Q0) (hv : SvAt k ps bL f g w) (hn : k.N.n = 0) :
    Calls Try.prog 41 #[.pointer (some ⟨ps, 0, none⟩)] w fun e w' => (∃ a c, e = .returned (.slice a 0 c)) ∧ Same k.X w w' := by
  have hmk0 := run_make_zero (P := Try.prog) 22 3 Try.underlying22 Try.info3 0 (by omega)
  rw [show (((0 : Nat)) : Int) = 0 from rfl] at hmk0
  obtain ⟨c0, c1, c2, c3, c4, c5⟩ := hd.cells hs
  obtain ⟨s0, s1⟩ := hv.cell0
  have hps : ps < w.heap.size := by obtain ⟨r, hr, _⟩ := hv.row; exact hr.lt
  have hpp : k.p < w.heap.size := hd.lts k.p (by simp [Wk.X])
  rw [hn] at c3
  clear c0 c1 c2 c4 c5 s1
  go_enter Try.func41, Try.ntmps41
  go_wp2
  go_ret
  exact ⟨⟨_, _, rfl⟩, (Same.refl _ _).alloc _⟩

set_option maxHeartbeats 400000 in
theorem zzmid_any (k : Wk) (ps bL : Nat) (f g : Nat → Nat) (D0 V0 : Nat → Int) (q0 : Nat) (Q0 : Nat → Nat) (w : World) (hs : WkStat k w) (hd : WkDyn k w D0 V0 q0 Q0) (hv : SvAt k ps bL f g w) (hn : 0 < k.N.n) (hpo : PortOk k.N f g) (hfg : ∀ l, l < k.N.m → f l < k.N.n ∧ g l < k.N.n) :
    Calls Try.prog 16 #[.pointer (some ⟨ps, 0, none⟩)] w fun e w' => ∃ O : Nat → Nat, e = .returned (.slice (some ⟨w.heap.size, 0, none⟩) k.N.n k.N.n) ∧ Same k.X w w' ∧ w'.rowIs w.heap.size 3 k.N.n (fun i => .int .i64 (O i : Nat)) ∧ MidSpec k.N O := by
  go_enter Try.func16, Try.ntmps16
  go_wp2_with fail
  refine (mid_any k ps bL f g D0 V0 q0 Q0 w hs hd hv hn hpo hfg).mono ?_
  rintro e w' ⟨O, rfl, h1, h2, h3⟩
  go_wp2
  go_ret
  exact ⟨O, rfl, h1, h2, h3⟩

set_option maxHeartbeats 400000 in
theorem zzmid_zero (k : Wk) (ps bL : Nat) (f g : Nat → Nat) (D0 V0 : Nat → Int) (q0 : Nat) (Q0 : Nat → Nat) (w : World) (hs : WkStat k w) (hd : WkDyn k w D0 V0 q0 Q0) (hv : SvAt k ps bL f g w) (hn : k.N.n = 0) :
    Calls Try.prog 16 #[.pointer (some ⟨ps, 0, none⟩)] w fun e w' => (∃ a c, e = .returned (.slice a 0 c)) ∧ Same k.X w w' := by
  go_enter Try.func16, Try.ntmps16
  go_wp2_with fail
  refine (mid_zero k ps bL f g D0 V0 q0 Q0 w hs hd hv hn).mono ?_
  rintro e w' ⟨⟨a, c, rfl⟩, h1⟩
  go_wp2
  go_ret
  exact ⟨⟨a, c, rfl⟩, h1⟩

end Go.Proofs.Qxb6608983a
