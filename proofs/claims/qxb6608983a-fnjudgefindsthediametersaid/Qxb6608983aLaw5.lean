import Derived.Test.Qxb6608983aJj
import Derived.Test.Qxb6608983aCd
import Derived.Deep.RegionHeld3
namespace Go.Proofs.Qxb6608983a
open Go.RowKit
set_option linter.unusedVariables false
set_option linter.unusedSimpArgs false

set_option maxHeartbeats 400000 in
theorem zzjudge_any (k : Wk) (E : Nat → Nat → Prop) (δ : Nat → Nat → Int) (hδ : ∀ i, i < k.N.n → IsDist E k.N.n i (δ i)) (hsym : ∀ u v, E u v → E v u)
    (hEE : ∀ u v, u < k.N.n → v < k.N.n → (E u v ↔ k.N.F u = false ∧ ∃ j, j < k.N.PL u ∧ k.N.peer u j = v ∧ k.N.use u j))
    (ps pt bT bQ bU bF bO r e q : Nat) (D V : Nat → Int) (Q : Nat → Nat) (dia : Int) (D0 V0 : Nat → Int) (q0 : Nat) (Q0 : Nat → Nat) (w : World)
    (hR : Reached k.N r D V q Q) (hFr : k.N.F r = false) (he : D (Q (q - 1)) = (e : Nat))
    (hs : WkStat k w) (hd : WkDyn k w D0 V0 q0 Q0) (ht : TrAt k.N.n pt bT bQ q r e D w) (hv : SuAt k.p k.N.n ps bU bF bO w) (h16 : w.cell? ⟨ps, 16, none⟩ = some (.int .i64 dia))
    (hU : w.rowIs bU 3 k.N.n (fun _ => .int .i64 0)) (hFa : w.rowIs bF 3 k.N.n (fun _ => .int .i64 0)) (hO : w.rowIs bO 3 (k.N.n + 2) (fun _ => .int .i64 0)) (ap : Apart k ps pt bT bQ bU bF bO)
    (hpU : k.p < bU) (hpF : k.p < bF) (hpO : k.p < bO) :
    Calls Try.prog 24 #[.pointer (some ⟨ps, 0, none⟩), .pointer (some ⟨pt, 0, none⟩), .int .i64 (-1)] w fun en w' => ∃ worst U, en = .returned (.tuple #[]) ∧ Same (ps :: k.Y bU bF bO) w w' ∧ w'.cell? ⟨ps, 16, none⟩ = some (.int .i64 worst) ∧
      Jg k.N.n r δ dia worst U ∧ (∀ p, p < k.N.n → 0 ≤ δ r p → ∀ u, u < k.N.n → 0 ≤ δ r u → δ p u ≤ worst) := by
  have hj := judge_any k E δ hδ hsym hEE ps pt bT bQ bU bF bO r e q D V Q dia D0 V0 q0 Q0 w hR hFr he hs hd ht hv h16 hU hFa hO ap hpU hpF hpO
  clear h16
  go_enter Try.func24, Try.ntmps24
  go_wp2_with fail
  refine hj.mono ?_
  rintro en w1 ⟨worst, U, rfl, h1, h2, h3, h4⟩
  clear hj
  go_wp2
  go_end0
  exact ⟨worst, U, rfl, h1, h2, h3, h4⟩

/-- The walk inside a search tree. -/
def Wk.tree (k : Wk) (pt bD : Nat) : Wk := { k with p := pt, tp := 78, np := 21, bD := bD, bV := bD + 1, bQ := bD + 2 }

theorem WkStat.tree {k : Wk} {w : World} (h : WkStat k w) {pt bD : Nat} (hp : k.p ≤ pt) (hb : pt < bD) : WkStat (k.tree pt bD) w := by
  refine ⟨h.ok, h.nle, h.mle, h.ple, h.ports.mono hp, ?_, h.failed.mono hp, h.cut.mono hp, hb, Nat.lt_succ_self _, Nat.lt_succ_self _, by simp [Wk.tree]⟩
  intro v hv j hj
  obtain ⟨b, off, e, hlt, c1, c2⟩ := h.port v hv j hj
  exact ⟨b, off, e, Nat.lt_of_lt_of_le hlt hp, c1, c2⟩

theorem dists (E : Nat → Nat → Prop) (n : Nat) : ∃ δ : Nat → Nat → Int, ∀ i, i < n → IsDist E n i (δ i) := by
  have h : ∀ i, ∃ d : Nat → Int, i < n → IsDist E n i d := by
    intro i
    by_cases hi : i < n
    · obtain ⟨d, hd⟩ := dist_exists E n i hi
      exact ⟨d, fun _ => hd⟩
    · exact ⟨fun _ => 0, fun h => absurd h hi⟩
  exact choice h

/-- The survey is made: its three rows of its own. -/
def Made (w : World) (pw n ml : Nat) (bL : Nat) (dia : Int) (v : Value) (wx : World) : Prop :=
  ∃ ps bU bF bO f, v = .pointer (some ⟨ps, 0, none⟩) ∧ Same [] w wx ∧ wx.rowIs ps 68 17 f ∧ f 0 = .pointer (some ⟨pw, 0, none⟩) ∧ f 8 = .slice (some ⟨bU, 0, none⟩) n n ∧ f 9 = .slice (some ⟨bF, 0, none⟩) n n ∧ f 10 = .slice (some ⟨bO, 0, none⟩) (n + 2) (n + 2) ∧ f 16 = .int .i64 dia ∧
    wx.rowIs bU 3 n (fun _ => .int .i64 0) ∧ wx.rowIs bF 3 n (fun _ => .int .i64 0) ∧ wx.rowIs bO 3 (n + 2) (fun _ => .int .i64 0) ∧
    w.heap.size ≤ bU ∧ w.heap.size ≤ bF ∧ w.heap.size ≤ bO ∧ bU < ps ∧ bF < ps ∧ bO < ps ∧ bU ≠ bF ∧ bU ≠ bO ∧ bF ≠ bO

theorem rows3 {w w6 : World} {n1 n2 n3 : Nat}
    (hb : Below (((w.alloc (Obj.cells (madeCells #[Value.int IntKind.i64 0] n1) 3)).alloc (Obj.cells (madeCells #[Value.int IntKind.i64 0] n2) 3)).alloc (Obj.cells (madeCells #[Value.int IntKind.i64 0] n3) 3)).drew.heap.size
      (((w.alloc (Obj.cells (madeCells #[Value.int IntKind.i64 0] n1) 3)).alloc (Obj.cells (madeCells #[Value.int IntKind.i64 0] n2) 3)).alloc (Obj.cells (madeCells #[Value.int IntKind.i64 0] n3) 3)).drew w6) :
    Same [] w w6 ∧ w6.rowIs w.heap.size 3 n1 (fun _ => .int .i64 0) ∧ w6.rowIs (w.heap.size + 1) 3 n2 (fun _ => .int .i64 0) ∧ w6.rowIs (w.heap.size + 1 + 1) 3 n3 (fun _ => .int .i64 0) ∧
      (((w.alloc (Obj.cells (madeCells #[Value.int IntKind.i64 0] n1) 3)).alloc (Obj.cells (madeCells #[Value.int IntKind.i64 0] n2) 3)).alloc (Obj.cells (madeCells #[Value.int IntKind.i64 0] n3) 3)).drew.heap.size = w.heap.size + 1 + 1 + 1 := by
  obtain ⟨A1, hA1⟩ : ∃ A, A = w.alloc (Obj.cells (madeCells #[Value.int IntKind.i64 0] n1) 3) := ⟨_, rfl⟩
  obtain ⟨A2, hA2⟩ : ∃ A, A = A1.alloc (Obj.cells (madeCells #[Value.int IntKind.i64 0] n2) 3) := ⟨_, rfl⟩
  obtain ⟨A3, hA3⟩ : ∃ A, A = A2.alloc (Obj.cells (madeCells #[Value.int IntKind.i64 0] n3) 3) := ⟨_, rfl⟩
  rw [← hA1, ← hA2, ← hA3] at hb ⊢
  have s1 : Same [] w A1 := by rw [hA1]; exact (Same.refl _ _).alloc _
  have s2 : Same [] A1 A2 := by rw [hA2]; exact (Same.refl _ _).alloc _
  have s3 : Same [] A2 A3 := by rw [hA3]; exact (Same.refl _ _).alloc _
  have s4 : Same [] A3 w6 := (Same.refl [] A3).drew.trans (Same.of_below hb (Nat.le_refl _) _)
  have z1 : A1.heap.size = w.heap.size + 1 := by rw [hA1]; simp
  have z2 : A2.heap.size = w.heap.size + 1 + 1 := by rw [hA2, ← z1]; simp
  have z3 : A3.heap.size = w.heap.size + 1 + 1 + 1 := by rw [hA3, ← z2]; simp
  have r1 : A1.rowIs w.heap.size 3 n1 (fun _ => .int .i64 0) := by rw [hA1]; exact World.rowIs_made w (.int .i64 0) n1 3
  have r2 : A2.rowIs (w.heap.size + 1) 3 n2 (fun _ => .int .i64 0) := by rw [hA2, ← z1]; exact World.rowIs_made A1 (.int .i64 0) n2 3
  have r3 : A3.rowIs (w.heap.size + 1 + 1) 3 n3 (fun _ => .int .i64 0) := by rw [hA3, ← z2]; exact World.rowIs_made A2 (.int .i64 0) n3 3
  exact ⟨((s1.trans s2).trans s3).trans s4, ((s2.trans s3).trans s4).rowIs r1 (by simp), (s3.trans s4).rowIs r2 (by simp), s4.rowIs r3 (by simp), z3⟩

set_option maxHeartbeats 2000000 in
set_option maxRecDepth 8000 in
theorem law5_main (aa ab af ac : Option Addr) (n m ca cb cf cc lb lc : Nat) (f g : Nat → Int) (F C : Nat → Bool) (root dia : Int) (w : World) (hn : n ≤ 256) (hm : m ≤ 4096) (hlb : lb ≤ 4096) (hlc : lc ≤ 4096)
    (hA : At w.heap.size w aa m (fun i => .int .i64 (f i))) (hB : At w.heap.size w ab lb (fun i => .int .i64 (g i))) (hF : At w.heap.size w af n (fun i => .bool (F i))) (hC : At w.heap.size w ac lc (fun i => .bool (C i))) :
    Calls Try.prog 5 #[.slice aa m ca, .slice ab lb cb, .slice af n cf, .slice ac lc cc, .int .i64 root, .int .i64 dia] w fun e w' => e = .returned (.bool true) ∧ Below w.heap.size w w' := by
  have d1 : decide ((4096 : Int) < (m : Int)) = false := decide_eq_false (by omega)
  have d2 : decide ((4096 : Int) < (lb : Int)) = false := decide_eq_false (by omega)
  have d3 : decide ((256 : Int) < (n : Int)) = false := decide_eq_false (by omega)
  have d4 : decide ((4096 : Int) < (lc : Int)) = false := decide_eq_false (by omega)
  go_enter Try.func5, Try.ntmps5
  go_wp2_with fail
  refine (bytes21_any _ _ _ _ _ _ _ _ _ _ _ _ _ _ _ (by omega) (by omega) (by omega) (by omega)).mono ?_
  rintro e w' ⟨⟨b, rfl⟩, rfl⟩
  cases b with
  | false =>
    go_wp2
    go_ret
    exact ⟨rfl, Below.refl _ _⟩
  | true =>
    go_wp2_with fail
    refine (fit_any n m lb lc ca cb cc aa ab ac f g w.heap.size w (by omega) (by omega) (by omega) (by omega) hA hB).mono ?_
    rintro e w' ⟨⟨b, rfl, hb⟩, q1, rfl⟩
    cases b with
    | false =>
      clear hb
      go_wp2
      go_ret
      exact ⟨rfl, below_drawn (Below.refl _ _) _⟩
    | true =>
      have hfit := hb rfl
      clear hb
      have hfit' := hfit
      obtain ⟨e1, e2, _⟩ := hfit'
      subst e1
      subst e2
      have hlk := lkAt_of (by omega) hm hfit hA hB hF hC
      clear hfit hA hB hC d2 d4
      obtain ⟨L, hL⟩ : ∃ L, L = lkOf n m f g F C := ⟨_, rfl⟩
      have eLn : L.n = n := by rw [hL]; rfl
      have eLm : L.m = m := by rw [hL]; rfl
      have eLF : L.F = F := by rw [hL]; rfl
      rw [← hL] at hlk
      clear hL
      subst eLn
      subst eLm
      subst eLF
      have hlkq : LkAt L w.heap.size (w.drewN q1) aa ab af ac := hlk.below (below_drawn (Below.refl _ _) _)
      obtain ⟨wq, hwq⟩ : ∃ wq, wq = w.drewN q1 := ⟨_, rfl⟩
      have hbq : Below w.heap.size w wq := by rw [hwq]; exact below_drawn (Below.refl _ _) _
      have hB0 : w.heap.size ≤ wq.heap.size := hbq.size
      rw [← hwq] at hlkq ⊢
      clear hwq
      by_cases hr0 : root < 0
      · have dr : decide (root < 0) = true := decide_eq_true hr0
        go_wp2
        go_ret
        exact ⟨rfl, hbq⟩
      have dr : decide (root < 0) = false := decide_eq_false hr0
      by_cases hrn : (L.n : Int) ≤ root
      · have dn : decide ((L.n : Int) ≤ root) = true := decide_eq_true hrn
        go_wp2
        go_ret
        exact ⟨rfl, hbq⟩
      have dn : decide ((L.n : Int) ≤ root) = false := decide_eq_false hrn
      obtain ⟨r, rfl⟩ : ∃ r : Nat, root = (r : Int) := ⟨root.toNat, by omega⟩
      have hr : r < L.n := by omega
      obtain ⟨bf, of, haf, hbf, cF⟩ := hlkq.Fd.bool hr
      obtain ⟨b, hb⟩ : ∃ b, b = L.F r := ⟨_, rfl⟩
      have HF := (show Hid _ from hb)
      rw [← hb] at cF
      rw [haf]
      rw [haf] at hlk hlkq
      clear hb haf
      have hr' : (r : Int) < (L.n : Int) := by omega
      cases b with
      | true =>
        go_wp2
        go_ret
        exact ⟨rfl, hbq⟩
      | false =>
        go_wp2_with fail
        refine (clone_any L.n cf _ L.F w.heap.size wq (by omega) hB0 hlkq.Fd).mono ?_
        clear cF d1 d3 dr dn
        rintro e w1 ⟨aF, cF, rfl, hb1, hFd1, -, -⟩
        have hlk1 := hlkq.below (hb1.mono hB0)
        have hB1 : w.heap.size ≤ w1.heap.size := Nat.le_trans hB0 hb1.size
        go_wp2_with fail
        refine (clone_any L.m cc _ L.C w.heap.size w1 (by omega) hB1 hlk1.Ct).mono ?_
        rintro e w2 ⟨aC, cC, rfl, hb2, hCt2, -, -⟩
        have hlk2 := hlk1.below (hb2.mono hB1)
        have hB2 : w.heap.size ≤ w2.heap.size := Nat.le_trans hB1 hb2.size
        go_wp2_with fail
        refine (links_any L.m ca cb _ _ L.f L.g w.heap.size w2 (by omega) hB2 hlk2.A hlk2.B').mono ?_
        rintro e w3 ⟨rfl, hb3, hr3⟩
        have hlk3 := hlk2.below (hb3.mono hB2)
        have hB3 : w.heap.size ≤ w3.heap.size := Nat.le_trans hB2 hb3.size
        have hP := ports_any L.n L.m ca cb aa ab L.f L.g w.heap.size w3 (by omega) hm hB3 hlk3.A hlk3.B' hlk3.fits
        go_wp2_with fail
        refine hP.mono ?_
        rintro e w4 ⟨rfl, hb4, S, hS⟩
        clear hP
        have hlk4 := hlk3.below (hb4.mono hB3)
        have hB4 : w.heap.size ≤ w4.heap.size := Nat.le_trans hB3 hb4.size
        go_wp2_with fail
        refine (newWalk_any _ aF aC L.n L.n cF L.m cC w4 (by omega)).mono ?_
        rintro e w5 ⟨rfl, hb5, hr5, hd51, hd52, hd53⟩
        have hlk5 := hlk4.below (hb5.mono hB4)
        have hB5 : w.heap.size ≤ w5.heap.size := Nat.le_trans hB4 hb5.size
        have hFd4 : At w4.heap.size w4 aF L.n (fun v => .bool (L.F v)) := (((hFd1.below hb2).below (hb3.mono hb2.size)).below (hb4.mono (Nat.le_trans hb2.size hb3.size))).mono (Nat.le_trans hb2.size (Nat.le_trans hb3.size hb4.size))
        have hCt4 : At w4.heap.size w4 aC L.m (fun v => .bool (L.C v)) := ((hCt2.below hb3).below (hb4.mono hb3.size)).mono (Nat.le_trans hb3.size hb4.size)
        have hst5 : WkStat (wkOf L S w3.heap.size w4.heap.size aF aC cF cC) w5 := (stat_of (cF := cF) (cC := cC) (by omega) hm hlk.fits hS (Nat.le_refl _) hFd4 hCt4).below hb5
        have hdy5 : WkDyn (wkOf L S w3.heap.size w4.heap.size aF aC cF cC) w5 (fun _ => 0) (fun _ => 0) 0 (fun _ => 0) := ⟨⟨_, hr5, rfl, rfl, rfl, rfl, rfl, rfl⟩, hd51, hd52, ⟨_, hd53, fun i hi => by omega⟩⟩
        have hz5 := hd53.lt
        have hbw5 : Below w.heap.size w w5 := ((((hbq.trans (hb1.mono hB0)).trans (hb2.mono hB1)).trans (hb3.mono hB2)).trans (hb4.mono hB3)).trans (hb5.mono hB4)
        have hFd5 := hFd4.below hb5
        have hCt5 := hCt4.below hb5
        clear hr5 hd51 hd52 hd53 hb1 hb2 hb3 hb4 hb5 hlkq hlk1 hlk2 hlk3 hlk4 hFd1 hCt2 hFd4 hCt4 hr3 hS hB1 hB2 hbq
        have hmk := run_make_row' (P := Try.prog) 22 3 (.int .i64 0) 8 Try.underlying22 Try.info3 rfl .i64 .i64 L.n (by omega) (by omega)
        have hmk2 := run_make_row' (P := Try.prog) 22 3 (.int .i64 0) 8 Try.underlying22 Try.info3 rfl .i64 .i64 (L.n + 2) (by omega) (by omega)
        have hmk3 : ∀ wx : World, (Instr.makeSlice 22 (.int .i64 ((L.n : Int) + 2)) (.int .i64 ((L.n : Int) + 2))).run Try.prog wx = .ok (.slice (some ⟨wx.heap.size, 0, none⟩) (L.n + 2) (L.n + 2)) (wx.alloc (.cells (madeCells #[.int .i64 0] (L.n + 2)) 3)) := hmk2
        have hwr : IntKind.i64.wrap ((L.n : Int) + 2) = (L.n : Int) + 2 := by rw [IntKind.wrap_i64]; omega
        clear hmk2
        go_upto_region 20 with fail
        go_cut [18] (fun v wx => Made w5 w4.heap.size L.n L.m w2.heap.size dia v wx)
        case first =>
          go_region_held3 (fun _ => True) (exact True.intro) ((go_at_call 14; refine (newSurvey_any _ _ _ _ _ _ _ _ _ _ _ _ _ _ _).mono ?_; rintro e w6 ⟨rfl, hb6, f6, hr6, e60, e61, e68, e69, e610, e616⟩))
          all_goals
            obtain ⟨hsm, hq1, hq2, hq3, hzz⟩ := rows3 hb6
            rw [hzz] at hr6
            clear hzz hb6
            go_wp2
            go_meet
            case rel => exact ⟨_, _, _, _, f6, rfl, hsm, hr6, e60, e68, e69, e610, e616, by assumption, by assumption, by assumption, by omega, by omega, by omega, by omega, by omega, by omega, by omega, by omega, by omega⟩
        case rest =>
          obtain ⟨ps, bU, bF, bO, f6, rfl, hs6, hr6, e60, e68, e69, e610, e616, hU6, hF6, hO6, g1, g2, g3, g4, g5, g6, g7, g8, g9⟩ := hcut
          rename World => wc
          have hz6 := hr6.lt
          have hst6 := hst5.same (hs6.mono (fun x hx => by cases hx)) (Nat.le_of_lt (show w4.heap.size < w5.heap.size by omega))
          have hdy6 := hdy5.same hs6 (by simp) (by simp) (by simp) (by simp)
          obtain ⟨c0, c1, c2, -, -, -⟩ := hdy6.cells hst6
          have hsz6 := hs6.size
          have hnt := zznewSearchTree_any w4.heap.size (some ⟨w2.heap.size, 0, none⟩) L.n L.m L.m _ _ _ _ _ _ _ _ wc (by omega) hm c0 c1 c2 (by omega)
          clear c0 c1 c2 hmk hmk3 hwr
          go_wp2_with fail
          refine hnt.mono ?_
          rintro e w7 ⟨pt, bD, rfl, hpt, hptb, hs7, ⟨f7, hr7, f70, f71, f72, f73, f74, f75, f714⟩, hd71, hd72, hd73⟩
          clear hnt
          have hsz7 := hs7.size
          have hst7 := hst6.same (hs7.mono (fun x hx => by cases hx)) (show w4.heap.size ≤ wc.heap.size by omega)
          have hdy7 := hdy6.same hs7 (by simp) (by simp) (by simp) (by simp)
          have hstt7 := hst7.tree (pt := pt) (bD := bD) (show w4.heap.size ≤ pt by omega) hptb
          have hdyt7 : WkDyn ((wkOf L S w3.heap.size w4.heap.size aF aC cF cC).tree pt bD) w7 (fun _ => 0) (fun _ => 0) 0 (fun _ => 0) := ⟨⟨f7, hr7, f70, f71, f72, f73, f74, f75⟩, hd71, hd72, ⟨_, hd73, fun i hi => by omega⟩⟩
          have hz7 := hd73.lt
          have hpl := zzplant_any _ r _ _ _ _ f7 w7 hstt7 hdyt7 rfl rfl hr7 f714 hr
          clear hd71 hd72 hd73 f70 f71 f72 f73 f74 f75 f714
          have hpl2 : Calls Try.prog 23 #[.pointer (some ⟨pt, 0, none⟩), .int .i64 (r : Nat)] w7 _ := hpl
          go_wp2_with fail
          refine hpl2.mono ?_
          rintro e w8 ⟨D, V, q, Q, hR, rfl, hs8, hdyt8, c7⟩
          clear hpl hpl2
          obtain ⟨δ, hδ⟩ := dists L.E L.n
          have hFr : L.F r = false := HF.out.symm
          have hptX : ∀ x ∈ ((wkOf L S w3.heap.size w4.heap.size aF aC cF cC).tree pt bD).X, wc.heap.size ≤ x := by
            intro x hx
            have : x = pt ∨ x = bD ∨ x = bD + 1 ∨ x = bD + 2 := by simpa [Wk.X, Wk.tree] using hx
            omega
          have hkX : ∀ x ∈ (wkOf L S w3.heap.size w4.heap.size aF aC cF cC).X, w4.heap.size ≤ x ∧ x < w5.heap.size := by
            intro x hx
            have : x = w4.heap.size ∨ x = w4.heap.size + 1 ∨ x = w4.heap.size + 2 ∨ x = w4.heap.size + 3 := by simpa [Wk.X, wkOf] using hx
            omega
          have hnot : ∀ x, x < wc.heap.size → x ∉ ((wkOf L S w3.heap.size w4.heap.size aF aC cF cC).tree pt bD).X := fun x hx hm => by have := hptX x hm; omega
          have hdy8 := hdy7.same hs8 (hnot _ (by have := hkX _ (show (wkOf L S w3.heap.size w4.heap.size aF aC cF cC).p ∈ _ by simp [Wk.X]); omega)) (hnot _ (by have := hkX _ (show (wkOf L S w3.heap.size w4.heap.size aF aC cF cC).bD ∈ _ by simp [Wk.X]); omega))
            (hnot _ (by have := hkX _ (show (wkOf L S w3.heap.size w4.heap.size aF aC cF cC).bV ∈ _ by simp [Wk.X]); omega)) (hnot _ (by have := hkX _ (show (wkOf L S w3.heap.size w4.heap.size aF aC cF cC).bQ ∈ _ by simp [Wk.X]); omega))
          have hb78 : Below w4.heap.size w7 w8 := hs8.toBelow (by omega) (fun x hx => by have := hptX x hx; omega)
          have hst8 := hst7.below hb78
          have hstt8 := hstt7.same hs8 (show pt ≤ w7.heap.size by omega)
          obtain ⟨-, -, -, t3, -, t5⟩ := hdyt8.cells hstt8
          have hq1 := hR.q1
          obtain ⟨gq, hgq, egq⟩ := hdyt8.queue
          have tq : w8.cell? ⟨bD + 2, 0, none⟩ = some (.int .i64 (r : Nat)) := by
            have h1 : w8.cell? ⟨bD + 2, 0, none⟩ = some (gq 0) := hgq.cell (show 0 < L.n by omega)
            rw [h1, egq 0 (by omega), hR.Q0]
          have hlast0 : 0 ≤ D (Q (q - 1)) := (hR.mem _ (hR.qn (q - 1) (by omega))).2 ⟨q - 1, by omega, rfl⟩
          obtain ⟨ee, hee⟩ : ∃ ee : Nat, D (Q (q - 1)) = (ee : Nat) := ⟨(D (Q (q - 1))).toNat, by omega⟩
          rw [hee] at c7
          have hsz8 := hs8.size
          have ht8 : TrAt L.n pt bD (bD + 2) q r ee D w8 := ⟨t3, t5, c7, hdyt8.dist, tq, by omega, by omega⟩
          have hs68 : Same ((wkOf L S w3.heap.size w4.heap.size aF aC cF cC).tree pt bD).X wc w8 := (hs7.mono (fun x hx => by cases hx)).trans hs8
          have hr8 := hs68.rowIs hr6 (hnot _ hz6)
          have hU8 := hs68.rowIs hU6 (hnot _ (by omega))
          have hF8 := hs68.rowIs hF6 (hnot _ (by omega))
          have hO8 := hs68.rowIs hO6 (hnot _ (by omega))
          have hv8 : SuAt w4.heap.size L.n ps bU bF bO w8 := ⟨by rw [hr8.cell (by omega), e60], by rw [hr8.cell (by omega), e68], by rw [hr8.cell (by omega), e69], by rw [hr8.cell (by omega), e610], hr8.lt, ⟨f6, hr8⟩⟩
          have h16 : w8.cell? ⟨ps, 16, none⟩ = some (.int .i64 dia) := by rw [hr8.cell (by omega), e616]
          have hap : Apart (wkOf L S w3.heap.size w4.heap.size aF aC cF cC) ps pt bD (bD + 2) bU bF bO := by
            refine ⟨?_, by omega, by omega, by omega, by omega, by omega⟩
            intro x hx
            have := hkX x hx
            omega
          have hjd := zzjudge_any (wkOf L S w3.heap.size w4.heap.size aF aC cF cC) L.E δ hδ (fun _ _ => L.E_symm) (netOf_E L) ps pt bD (bD + 2) bU bF bO r ee q D V Q dia _ _ _ _ w8 hR hFr hee hst8 hdy8 ht8 hv8 h16 hU8 hF8 hO8 hap
            (show w4.heap.size < bU by omega) (show w4.heap.size < bF by omega) (show w4.heap.size < bO by omega)
          clear h16 c7 t3 t5 tq hgq egq ht8 hv8 hap
          go_wp2_with fail
          refine hjd.mono ?_
          rintro e w9 ⟨worst, U, rfl, hs9, c16, hJ, hall⟩
          clear hjd
          have hb59 : Below w4.heap.size w5 w9 := by
            have b1 : Below w4.heap.size w5 wc := hs6.toBelow (by omega) (by intro x hx; cases hx)
            have b2 : Below w4.heap.size wc w7 := hs7.toBelow (by omega) (by intro x hx; cases hx)
            have b4 : Below w4.heap.size w8 w9 := hs9.toBelow (by omega) (by
              intro x hx
              have : x = ps ∨ x = w4.heap.size ∨ x = w4.heap.size + 1 ∨ x = w4.heap.size + 2 ∨ x = w4.heap.size + 3 ∨ x = bU ∨ x = bF ∨ x = bO := by simpa [Wk.Y, wkOf] using hx
              omega)
            exact ((b1.trans b2).trans hb78).trans b4
          have hlk9 := hlk5.below (hb59.mono hB4)
          have hB9 : w.heap.size ≤ w9.heap.size := Nat.le_trans hB5 hb59.size
          have hFd9 := hFd5.below hb59
          have hCt9 := hCt5.below hb59
          have hbw9 := hbw5.trans (hb59.mono hB4)
          have h49 : w4.heap.size ≤ w9.heap.size := Nat.le_trans (by omega) hb59.size
          clear hs9 hs8 hs7 hs6 hs68 hb78 hb59 hlk5 hFd5 hCt5 hbw5 hr8 hU8 hF8 hO8 hr6 hU6 hF6 hO6 hst8 hdy8 hst7 hdy7 hst6 hdy6 hst5 hdy5 hstt7 hdyt7 hstt8 hdyt8 hr7 hkX hptX hnot e60 e68 e69 e610 e616 hR
          have hzd := zzdiameter_any ps worst w9 c16
          go_wp2_with fail
          refine hzd.mono ?_
          rintro e wa ⟨rfl, rfl⟩
          clear hzd c16
          have hap := allPairs_any L w.heap.size w9 _ _ _ _ ca cb cf cc δ hlk9 hB9 hn hδ
          go_wp2_with fail
          refine hap.mono ?_
          rintro e w10 ⟨rfl, hb10, DD, hrow10, hDD⟩
          clear hap
          have hcd := compDia_any L.n r w9.heap.size DD δ w10 hn hr hrow10 hDD
          go_wp2_with fail
          refine hcd.mono ?_
          rintro e wa ⟨W, rfl, rfl, hCd⟩
          clear hcd
          have hlaw := hJ.law (E := L.E) hall hCd.nn (fun p u hp hu => hCd.le p u hp hu (.inl hp)) hCd.is
          have hlk10 := hlk9.below (hb10.mono hB9)
          have hFd10 := hFd9.below (hb10.mono h49)
          have hCt10 := hCt9.below (hb10.mono h49)
          have hbw10 := hbw9.trans (hb10.mono hB9)
          clear hJ hall hCd hDD hrow10 hδ hlk9 hFd9 hCt9 hbw9 hb10 HF hFr
          have hsa := same_any L.n aF (some ⟨bf, of, none⟩) cF cf L.F _ _ w10 (by omega) hFd10 hlk10.Fd
          have key : ∀ qq, Calls Try.prog 28 #[.slice aC L.m cC, .slice ac L.m cc] (w10.drewN qq) fun e w' => e = .returned (.bool true) ∧ ∃ q, w' = (w10.drewN qq).drewN q := fun qq =>
            same_any L.m aC ac cC cc L.C _ _ (w10.drewN qq) (by omega) (hCt10.below (below_drawn (Below.refl _ _) _)) (hlk10.Ct.below (below_drawn (Below.refl _ _) _))
          by_cases hWd : W < dia
          · have dW : decide (W < dia) = true := decide_eq_true hWd
            rw [if_pos hWd] at hlaw
            have HL := (show Hid _ from hlaw)
            have hq : (worst == dia) = true := by rw [hlaw]; simp
            clear hlaw
            go_wp2_with fail
            refine hsa.mono ?_
            rintro e wa ⟨rfl, qa, rfl⟩
            go_wp2_with fail
            refine (key qa).mono ?_
            rintro e wa ⟨rfl, qb, rfl⟩
            go_wp2
            go_ret
            exact ⟨rfl, below_drawn hbw10 _⟩
          · have dW : decide (W < dia) = false := decide_eq_false hWd
            rw [if_neg hWd] at hlaw
            have hq : (worst == W) = true := by rw [hlaw]; simp
            clear hlaw
            go_wp2_with fail
            refine hsa.mono ?_
            rintro e wa ⟨rfl, qa, rfl⟩
            go_wp2_with fail
            refine (key qa).mono ?_
            rintro e wa ⟨rfl, qb, rfl⟩
            go_wp2
            go_ret
            exact ⟨rfl, below_drawn hbw10 _⟩

end Go.Proofs.Qxb6608983a
