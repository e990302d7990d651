import Derived.Test.Qxb6608983aOrd
import Derived.StillTailTactics
namespace Go.Proofs.Qxb6608983a
open Go.RowKit
set_option linter.unusedVariables false
set_option linter.unusedSimpArgs false

theorem follows : Try.prog.follows .mixedOrders = true := by kernel_rfl

/-- A survey in memory: its struct's block, the links. -/
structure SvAt (k : Wk) (ps bL : Nat) (f g : Nat → Nat) (w : World) : Prop where
  row : ∃ r, w.rowIs ps 68 17 r ∧ r 0 = .pointer (some ⟨k.p, 0, none⟩) ∧ r 1 = .slice (some ⟨bL, 0, none⟩) k.N.m k.N.m
  links : w.rowIs bL 70 (k.N.m * 2) (fun i => .int .i64 (if i % 2 = 0 then f (i / 2) else g (i / 2) : Nat))
  ps : ps ∉ k.X
  bL : bL ∉ k.X

theorem SvAt.same {k : Wk} {ps bL : Nat} {f g : Nat → Nat} {w w' : World} (h : SvAt k ps bL f g w) (hs : Same k.X w w') : SvAt k ps bL f g w' := by
  obtain ⟨r, hr, e⟩ := h.row
  exact ⟨⟨r, hs.rowIs hr h.ps, e⟩, hs.rowIs h.links h.bL, h.ps, h.bL⟩

theorem SvAt.cell0 {k : Wk} {ps bL : Nat} {f g : Nat → Nat} {w : World} (h : SvAt k ps bL f g w) : w.cell? ⟨ps, 0, none⟩ = some (.pointer (some ⟨k.p, 0, none⟩)) ∧ w.cell? ⟨ps, 1, none⟩ = some (.slice (some ⟨bL, 0, none⟩) k.N.m k.N.m) := by
  obtain ⟨r, hr, e0, e1⟩ := h.row
  exact ⟨by rw [hr.cell (by omega), e0], by rw [hr.cell (by omega), e1]⟩

/-- Each port is one end of its link. -/
def PortOk (N : Net) (f g : Nat → Nat) : Prop := ∀ u, u < N.n → ∀ j, j < N.PL u → (f (N.link u j) = u ∧ g (N.link u j) = N.peer u j) ∨ (g (N.link u j) = u ∧ f (N.link u j) = N.peer u j)

/-- Up the tree of a search from u: i steps from m0 to mid. -/
structure UpPath (N : Net) (D : Nat → Int) (m0 i mid : Nat) (P : Nat → Nat) : Prop where
  first : P 0 = m0
  last : P i = mid
  at_ : ∀ j, j ≤ i → P j < N.n ∧ 0 ≤ D (P j) ∧ D (P j) = D m0 - j
  step : ∀ j, j < i → ∃ x, x < N.PL (P (j + 1)) ∧ N.peer (P (j + 1)) x = P j ∧ N.use (P (j + 1)) x

theorem UpPath.zero {N : Net} {D : Nat → Int} {m0 : Nat} (h : m0 < N.n) (h0 : 0 ≤ D m0) : UpPath N D m0 0 m0 (fun _ => m0) :=
  ⟨rfl, rfl, fun j hj => ⟨h, h0, by omega⟩, fun j hj => by omega⟩

theorem UpPath.up {N : Net} {D : Nat → Int} {m0 i mid : Nat} {P : Nat → Nat} (h : UpPath N D m0 i mid P) {v x : Nat} (hv : v < N.n) (h0 : 0 ≤ D v) (hD : D mid = D v + 1) (hx : x < N.PL v) (hp : N.peer v x = mid) (hu : N.use v x) :
    UpPath N D m0 (i + 1) v (upd P (i + 1) v) := by
  have e : ∀ j, j ≤ i → upd P (i + 1) v j = P j := fun j hj => upd_ne _ _ _ _ (by omega)
  refine ⟨by rw [e 0 (by omega)]; exact h.first, upd_same _ _ _, ?_, ?_⟩
  · intro j hj
    by_cases ej : j = i + 1
    · subst ej
      rw [upd_same]
      have := (h.at_ i (Nat.le_refl _)).2.2
      rw [h.last] at this
      exact ⟨hv, h0, by omega⟩
    · rw [e j (by omega)]; exact h.at_ j (by omega)
  · intro j hj
    by_cases ej : j = i
    · subst ej
      rw [upd_same, e j (Nat.le_refl _), h.last]
      exact ⟨x, hx, hp, hu⟩
    · rw [e (j + 1) (by omega), e j (by omega)]; exact h.step j (by omega)

/-- What fromMiddle gives: a search from 0 whose last is u; a search from u whose last is m0; half way up from m0 to u lies mid; a search from mid, in whose order the answer is. -/
def MidSpec (N : Net) (O : Nat → Nat) : Prop :=
  ∃ D1 V1 q1 Q1 D2 V2 q2 Q2 mid P D V q Q, Reached N 0 D1 V1 q1 Q1 ∧ Reached N (Q1 (q1 - 1)) D2 V2 q2 Q2 ∧ UpPath N D2 (Q2 (q2 - 1)) (D2 (Q2 (q2 - 1)) / 2).toNat mid P ∧ Reached N mid D V q Q ∧ Ordered N D q Q O

set_option maxHeartbeats 1000000 in
set_option maxRecDepth 8000 in
theorem mid_any (k : Wk) (ps bL : Nat) (f g : Nat → Nat) (D0 V0 : Nat → Int) (q0 : Nat) (Q0 : Nat → Nat) (w : World) (hs : WkStat k w) (hd : WkDyn k w D0 V0 q0 Q0) (hv : SvAt k ps bL f g w) (hn : 0 < k.N.n) (hpo : PortOk k.N f g) (hfg : ∀ l, l < k.N.m → f l < k.N.n ∧ g l < k.N.n) :
    Calls Try.prog 41 #[.pointer (some ⟨ps, 0, none⟩)] w fun e w' => ∃ O : Nat → Nat, e = .returned (.slice (some ⟨w.heap.size, 0, none⟩) k.N.n k.N.n) ∧ Same k.X w w' ∧ w'.rowIs w.heap.size 3 k.N.n (fun i => .int .i64 (O i : Nat)) ∧ MidSpec k.N O := by
  have hn2 := hs.nle
  have hplt : k.p ≤ w.heap.size := by obtain ⟨f, hr, _⟩ := hd.row; have := hr.lt; omega
  have hmk0 := run_make_zero (P := Try.prog) 22 3 Try.underlying22 Try.info3 k.N.n (by omega)
  obtain ⟨c0, c1, c2, c3, c4, c5⟩ := hd.cells hs
  obtain ⟨s0, s1⟩ := hv.cell0
  have hnz : ((k.N.n : Int) == 0) = false := by simp; omega
  have hps : ps < w.heap.size := by obtain ⟨r, hr, _⟩ := hv.row; exact hr.lt
  have hpp : k.p < w.heap.size := hd.lts k.p (by simp [Wk.X])
  go_enter Try.func41, Try.ntmps41
  clear c0 c1 c2 c4 c5 s1
  go_upto_region 4 with fail
  obtain ⟨w1, hw1⟩ : ∃ w1, w1 = w.alloc (Obj.cells (madeCells #[Value.int IntKind.i64 0] k.N.n) 3) := ⟨_, rfl⟩
  have hsm1 : Same k.X w w1 := by rw [hw1]; exact (Same.refl _ _).alloc _
  have hro1 : w1.rowIs w.heap.size 3 k.N.n (fun _ => .int .i64 0) := by rw [hw1]; exact World.rowIs_made w (.int .i64 0) k.N.n 3
  have hd1 : WkDyn k w1 D0 V0 q0 Q0 := by rw [hw1]; exact hd.alloc _
  rw [← hw1]
  obtain ⟨bO, hbO⟩ : ∃ b, b = w.heap.size := ⟨_, rfl⟩
  have hbX : bO ∉ k.X := fun hx => by have := hd.lts _ hx; omega
  rw [← hbO]
  rw [← hbO] at hro1
  have HBO : Hid (bO = w.heap.size) := hbO
  clear c3 s0 hw1 hbO hmk0
  have hst1 := hs.same hsm1 hplt
  have hv1 := hv.same hsm1
  obtain ⟨s0, s1⟩ := hv1.cell0
  have hr1 := reach_any k 0 D0 V0 q0 Q0 w1 hst1 hd1 hn
  rw [show (((0 : Nat)) : Int) = 0 from rfl] at hr1
  clear s1
  go_wp2_with fail
  refine hr1.mono ?_
  rintro e w2 ⟨D1, V1, q1, Q1, hR1, rfl, hsm2, hd2⟩
  clear hr1 hd1 s0
  have hpl1 : k.p ≤ w1.heap.size := Nat.le_trans hplt hsm1.size
  have hst2 := hst1.same hsm2 hpl1
  have hv2 := hv1.same hsm2
  have hro2 := hsm2.rowIs hro1 hbX
  obtain ⟨c0, c1, c2, c3, c4, c5⟩ := hd2.cells hst2
  obtain ⟨s0, s1⟩ := hv2.cell0
  have hq1 := hR1.q1
  have hql := hR1.qle
  have hu := hR1.qn (q1 - 1) (by omega)
  obtain ⟨gq, hgq, egq⟩ := hd2.queue
  have cq : w2.cell? ⟨k.bQ, q1 - 1, none⟩ = some (.int .i64 (Q1 (q1 - 1) : Nat)) := by rw [hgq.cell (by omega), egq (q1 - 1) (by omega)]
  obtain ⟨u, hue⟩ : ∃ u, u = Q1 (q1 - 1) := ⟨_, rfl⟩
  rw [← hue] at cq hu
  have HU : Hid (u = Q1 (q1 - 1)) := hue
  clear hue hgq egq c0 c1 c2 c3 c4 s1
  have hi1 : (q1 : Int) - 1 < (q1 : Int) := by omega
  have hi2 : ((q1 : Int) - 1).toNat = q1 - 1 := by omega
  have hi3 : IntKind.i64.wrap ((q1 : Int) - 1) = (q1 : Int) - 1 := by rw [IntKind.wrap_i64]; omega
  have hi4 : (1 : Int) ≤ (q1 : Int) := by omega
  go_upto_region 5 with fail
  go_still_tail 22, follows
  have hst2d : WkStat k w2.drew := hst2.below ⟨rfl, rfl, rfl, Nat.le_refl _, fun _ _ => rfl⟩
  have hr2 := reach_any k u D1 V1 q1 Q1 w2.drew hst2d hd2.drew hu
  go_wp2_with fail
  refine hr2.mono ?_
  rintro e w3 ⟨D2, V2, q2, Q2, hR2, rfl, hsm3, hd3⟩
  clear hr2 hd2 s0 c5 cq hi1 hi2 hi3 hi4 hst2d
  have hsm3' : Same k.X w2 w3 := (Same.refl _ _).drew.trans hsm3
  have hpl2 : k.p ≤ w2.heap.size := Nat.le_trans hpl1 hsm2.size
  have hst3 := hst2.same hsm3' hpl2
  have hv3 := hv2.same hsm3'
  have hro3 := hsm3'.rowIs hro2 hbX
  obtain ⟨c0, c1, c2, c3, c4, c5⟩ := hd3.cells hst3
  obtain ⟨s0, s1⟩ := hv3.cell0
  have hq1' := hR2.q1
  have hql' := hR2.qle
  have hm0 := hR2.qn (q2 - 1) (by omega)
  obtain ⟨gq, hgq, egq⟩ := hd3.queue
  have cq : w3.cell? ⟨k.bQ, q2 - 1, none⟩ = some (.int .i64 (Q2 (q2 - 1) : Nat)) := by rw [hgq.cell (by omega), egq (q2 - 1) (by omega)]
  obtain ⟨m0, hme⟩ : ∃ u, u = Q2 (q2 - 1) := ⟨_, rfl⟩
  rw [← hme] at cq hm0
  have HM : Hid (m0 = Q2 (q2 - 1)) := hme
  have hm0r : 0 ≤ D2 m0 := (hR2.mem m0 hm0).2 ⟨q2 - 1, by omega, hme.symm⟩
  have hm0l := hR2.lt m0 hm0
  have cd := hd3.dist.cell hm0
  obtain ⟨dm, hdm⟩ : ∃ d, d = D2 m0 := ⟨_, rfl⟩
  rw [← hdm] at cd hm0r hm0l
  have HDM : Hid (dm = D2 m0) := hdm
  clear hme hgq egq hdm c0 c1 c2
  have hi4 : (1 : Int) ≤ (q2 : Int) := by omega
  have hm0' : (m0 : Int) < (k.N.n : Int) := by omega
  go_wp2
  go_quiet (fail)
  go_wp2
  go_loopg [4, 83] (dm / 2).toNat (fun g0 mv cv wr => ∃ i mid P, i + g0 = (dm / 2).toNat ∧ cv = .int .i64 (i : Nat) ∧ mv = .int .i64 (mid : Nat) ∧ UpPath k.N D2 m0 i mid P ∧ ∃ r, wr = w3.drewN r)
  case atStart => exact ⟨0, m0, _, by omega, rfl, rfl, UpPath.zero hm0 (by rw [← HDM.out]; exact hm0r), _, rfl⟩
  case round =>
    obtain ⟨i, mid, P, hi, rfl, rfl, hup, r, rfl⟩ := hrel
    have hat := hup.at_ i (Nat.le_refl _)
    rw [hup.last] at hat
    obtain ⟨hmn, hmd0, hmd⟩ := hat
    have hmn' : (mid : Int) < (k.N.n : Int) := by omega
    by_cases hlt : (i : Int) < dm / 2
    · have hms : mid ≠ u := by
        intro e
        subst e
        have := hR2.Ds
        have := HDM.out
        omega
      obtain ⟨v, hv', x, hx, hp, hV, hD, hDv, huse⟩ := hR2.par mid hmn hmd0 hms
      have hlk := (hst3.ok v hv' x hx).2
      have cvv := hd3.via.cell hmn
      obtain ⟨l, hl⟩ : ∃ l, l = k.N.link v x := ⟨_, rfl⟩
      rw [← hl] at hV hlk
      rw [hV] at cvv
      have cl1 := hv3.links.cell (i := l * 2) (by omega)
      have cl2 := hv3.links.cell (i := l * 2 + 1) (by omega)
      rw [show l * 2 / 2 = l by omega, show l * 2 % 2 = 0 by omega] at cl1
      rw [show (l * 2 + 1) / 2 = l by omega, show (l * 2 + 1) % 2 = 1 by omega] at cl2
      simp only [if_true] at cl1
      simp only [show ¬ (1 = 0) by omega, if_false] at cl2
      have hsum : f l + g l = v + mid := by
        have := hpo v hv' x hx
        rw [← hl, hp] at this
        omega
      obtain ⟨hfl, hgl⟩ := hfg l hlk
      obtain ⟨fl, hfe⟩ : ∃ z, z = f l := ⟨_, rfl⟩
      obtain ⟨gl, hge⟩ : ∃ z, z = g l := ⟨_, rfl⟩
      rw [← hfe] at cl1 hsum hfl
      rw [← hge] at cl2 hsum hgl
      have hlk' : (l : Int) < (k.N.m : Int) := by omega
      have hml := hst3.mle
      have hup2 := hup.up hv' hDv hD hx hp huse
      have HS : Hid (fl + gl = v + mid) := hsum
      have HUP := (show Hid _ from hup2)
      clear hfe hge hsum hup2 hup hV hl hD hp hms huse hmd c5 cq cd c3
      go_wp2
      go_quiet (fail)
      go_wp2
      go_roundg (gk - 1)
      case measure => omega
      case rel => exact ⟨i + 1, v, _, by omega, by go_num, by have := HS.out; congr 1; omega, HUP.out, _, rfl⟩
    · have HI : Hid (i = (dm / 2).toNat) := (show _ = _ by omega)
      have HUP := (show Hid _ from hup)
      have hst3d : WkStat k (w3.drewN r) := hst3.below (below_drawn (Below.refl _ _) _)
      have hr3 := reach_any k mid D2 V2 q2 Q2 (w3.drewN r) hst3d (hd3.drawn r) hmn
      clear c3 c4 c5 cq cd s1 hup
      go_wp2_with fail
      refine hr3.mono ?_
      rintro e w4 ⟨D3, V3, q3, Q3, hR3, rfl, hsm4, hd4⟩
      clear hr3 s0 hd3
      have hsm4' : Same k.X w3 w4 := ((Same.refl _ _).drawn r).trans hsm4
      have hpl3 : k.p ≤ w3.heap.size := Nat.le_trans hpl2 hsm3'.size
      have hst4 := hst3.same hsm4' hpl3
      have hv4 := hv3.same hsm4'
      have hro4 := hsm4'.rowIs hro3 hbX
      obtain ⟨c0, c1, c2, c3, c4, c5⟩ := hd4.cells hst4
      obtain ⟨s0, s1⟩ := hv4.cell0
      have hq3l := hR3.qle
      obtain ⟨gq3, hgq3, egq3⟩ := hd4.queue
      obtain ⟨w5, happ, hsm5, g1, hg1, eg1⟩ := order_append hro4 hgq3 (by omega) egq3 hq3l
      have hS4 : Same k.X w w4 := ((hsm1.trans hsm2).trans hsm3').trans hsm4'
      have hbO2 := HBO.out
      have hS5 : Same k.X w w5 := hS4.trans' hsm5 (by intro y hy; simp at hy; subst hy; exact .inr (by omega))
      have hX1 : ∀ x ∈ k.X, x ∉ [bO] := by intro x hx hxb; simp at hxb; subst hxb; exact hbX hx
      have hbL : bL < w.heap.size := hv.links.lt
      have hd5 : WkDyn k w5 D3 V3 q3 Q3 := hd4.same hsm5 (hX1 _ (by simp [Wk.X])) (hX1 _ (by simp [Wk.X])) (hX1 _ (by simp [Wk.X])) (hX1 _ (by simp [Wk.X]))
      have hst5 := hs.same hS5 hplt
      have hv5 := hv.same hS5
      obtain ⟨_, _, _, c3', _, _⟩ := hd5.cells hst5
      obtain ⟨s0', _⟩ := hv5.cell0
      have HBO2 : Hid (bO = w.heap.size) := hbO2
      have hOI := OrdInv.start hR3
      clear c0 c1 c2 c4 s1 hgq3 egq3 hbO2 hd4 hro4 hv4 hst4
      go_upto_region 12 with fail
      go_wp2_with (at_builtin; refine wpList_append_run rfl (.tmp 129) (.tmp 136) 22 rfl _ _ _ _ rfl rfl happ ?_)
      clear c3 c5 s0 happ c3' s0'
      go_loopg [3, 146] k.N.n (fun g0 ov cv wr => ∃ j len O, j + g0 = k.N.n ∧ cv = .int .i64 (j : Nat) ∧ ov = .slice (some ⟨bO, 0, none⟩) len k.N.n ∧ OrdInv k.N.n D3 q3 Q3 j len O ∧ Same k.X w wr ∧ WkDyn k wr D3 V3 q3 Q3 ∧
        ∃ g2, wr.rowIs bO 3 k.N.n g2 ∧ ∀ i, i < len → g2 i = .int .i64 (O i : Nat))
      case atStart => exact ⟨0, q3, Q3, by omega, rfl, rfl, hOI, hS5, hd5, g1, hg1, eg1⟩
      case round =>
        clear hOI hS5 hd5 hg1 eg1 hst5 hv5
        obtain ⟨j, len, O, hj, rfl, rfl, hOI, hSr, hdr, g2, hg2, eg2⟩ := hrel
        by_cases hjn : j < k.N.n
        · have cdj := hdr.dist.cell hjn
          have hjn' : (j : Int) < (k.N.n : Int) := by omega
          have hlle := hOI.lle
          obtain ⟨dj, hdj⟩ : ∃ d, d = D3 j := ⟨_, rfl⟩
          rw [← hdj] at cdj
          by_cases hneg : dj < 0
          · have hroom := hOI.room hjn (by omega)
            have hpush := hOI.push hjn (by omega)
            obtain ⟨w6, happ6, hsm6, hg6⟩ := order_push (x := j) hg2 hroom
            clear hdj
            go_wp2_with (at_builtin; refine wpList_append_run rfl (.tmp 153) (.tmp 155) 22 rfl _ _ _ _ rfl rfl happ6 ?_)
            go_roundg (k.N.n - (j + 1))
            case measure => omega
            case rel =>
              refine ⟨j + 1, len + 1, _, by omega, by go_num, rfl, hpush, hSr.trans' hsm6 (by intro y hy; simp at hy; subst hy; exact .inr (by have := HBO2.out; omega)), hdr.same hsm6 (hX1 _ (by simp [Wk.X])) (hX1 _ (by simp [Wk.X])) (hX1 _ (by simp [Wk.X])) (hX1 _ (by simp [Wk.X])), _, hg6, ?_⟩
              intro i hi
              by_cases e : i = len
              · subst e; rw [upd_same, upd_same]
              · rw [upd_ne _ _ _ _ e, upd_ne _ _ _ _ e]; exact eg2 i (by omega)
          · have hkeep := hOI.keep (j := j) (by omega)
            clear hdj
            go_wp2
            go_roundg (k.N.n - (j + 1))
            case measure => omega
            case rel => exact ⟨j + 1, len, O, by omega, by go_num, rfl, hkeep, hSr, hdr, g2, hg2, eg2⟩
        · obtain rfl : j = k.N.n := by omega
          obtain ⟨hlen, hord⟩ := hOI.finish
          subst hlen
          go_wp2
          go_ret
          refine ⟨O, by rw [HBO2.out]; rfl, hSr, ?_, D1, V1, q1, Q1, D2, V2, q2, Q2, mid, P, D3, V3, q3, Q3, hR1, ?_, ?_, hR3, hord⟩
          · rw [← HBO2.out]
            exact hg2.congr eg2
          · rw [← HU.out]; exact hR2
          · rw [← HM.out, ← HDM.out, ← HI.out]; exact HUP.out

end Go.Proofs.Qxb6608983a
