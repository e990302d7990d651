import Derived.Test.Qxb6608983aWk
import Derived.Deep.RegionLaw
namespace Go.Proofs.Qxb6608983a
open Go.RowKit
set_option linter.unusedVariables false
set_option linter.unusedSimpArgs false

theorem cell_new (w : World) (c : Array Value) (t : TypeId) (i : Nat) : (w.alloc (.cells c t)).cell? ⟨w.heap.size, i, none⟩ = c[i]? := by
  unfold World.cell?
  rw [heap_new]
  simp

theorem WkDyn.lts {k : Wk} {w : World} {D V : Nat → Int} {q : Nat} {Q : Nat → Nat} (h : WkDyn k w D V q Q) : ∀ x ∈ k.X, x < w.heap.size := by
  obtain ⟨f, hr, _⟩ := h.row
  obtain ⟨g, hg, _⟩ := h.queue
  have := hr.lt; have := hg.lt; have := h.dist.lt; have := h.via.lt
  intro x hx
  simp [Wk.X] at hx
  omega

theorem gcell {X : List Nat} {a b : World} (h : Same X a b) {g i : Nat} {x : Value} (hlt : g < a.heap.size) (hX : g ∉ X) (c : a.cell? ⟨g, i, none⟩ = some x) : b.cell? ⟨g, i, none⟩ = some x := by
  rw [h.cell (p := ⟨g, i, none⟩) hlt hX]; exact c

/-- 'append(queue, x)' where there is room. -/
theorem queue_append {k : Wk} {w : World} {D V : Nat → Int} {q : Nat} {Q : Nat → Nat} (h : WkDyn k w D V q Q) (hs : WkStat k w) (qq x : Nat) (hqn : qq < k.N.n) :
    (Builtin.append_ #[22, 22] 22 #[.slice (some ⟨k.bQ, 0, none⟩) qq k.N.n, .slice (some ⟨w.heap.size, 0, none⟩) 1 1]).run Try.prog (w.alloc (.cells #[.int .i64 (x : Int)] 3)) =
      .ok (.slice (some ⟨k.bQ, 0, none⟩) (qq + 1) k.N.n) ((w.alloc (.cells #[.int .i64 (x : Int)] 3)).setCell ⟨k.bQ, qq, none⟩ (.int .i64 (x : Int))) := by
  obtain ⟨i, hi, hz, hsz, hb⟩ := info_parts Try.info3
  obtain ⟨g, hg, eg⟩ := (h.alloc (.cells #[.int .i64 (x : Int)] 3)).queue
  have hr := run_append_room_cells (P := Try.prog) (w.alloc (.cells #[.int .i64 (x : Int)] 3)) 22 22 3 i Try.underlying22 hi k.bQ 0 qq k.N.n ⟨w.heap.size, 0, none⟩ 1 1 [.int .i64 (x : Int)] (by simp [hsz]) (by
      intro j u hu
      rw [Addr.add_lit, Nat.zero_add]
      have hc : (w.alloc (.cells #[.int .i64 (x : Int)] 3)).cell? ⟨w.heap.size, j, none⟩ = #[Value.int .i64 (x : Int)][j]? := by
        unfold World.cell?
        rw [heap_new]
        simp
      rw [hc]
      simpa using hu) (by intro u hu; simp at hu; subst hu; rfl) (by omega) (by
      intro j hj
      simp at hj
      subst hj
      simp only [hsz, Nat.mul_one, Nat.zero_add, Nat.add_zero]
      rw [hg.cell hqn]; rfl) (by
      intro j hj
      exact hg.frozen _)
  simp only [hsz, Nat.mul_one, Nat.zero_add, World.setCells] at hr
  exact hr

/-- The same, what is behind it under a name. -/
theorem queue_push {k : Wk} {w : World} {D V : Nat → Int} {q : Nat} {Q : Nat → Nat} (h : WkDyn k w D V q Q) (hs : WkStat k w) (qq x : Nat) (hqq : qq ≤ q) (hqn : qq < k.N.n) :
    ∃ w2, (Builtin.append_ #[22, 22] 22 #[.slice (some ⟨k.bQ, 0, none⟩) qq k.N.n, .slice (some ⟨w.heap.size, 0, none⟩) 1 1]).run Try.prog (w.alloc (.cells #[.int .i64 (x : Int)] 3)) = .ok (.slice (some ⟨k.bQ, 0, none⟩) (qq + 1) k.N.n) w2 ∧
      w2.cell? ⟨k.p, 5, none⟩ = some (.slice (some ⟨k.bQ, 0, none⟩) q k.N.n) ∧ w2.frozen? ⟨k.p, 5, none⟩ = false ∧ Same k.X w w2 ∧
      Same k.X w (w2.setCell ⟨k.p, 5, none⟩ (.slice (some ⟨k.bQ, 0, none⟩) (qq + 1) k.N.n)) ∧ WkDyn k (w2.setCell ⟨k.p, 5, none⟩ (.slice (some ⟨k.bQ, 0, none⟩) (qq + 1) k.N.n)) D V (qq + 1) (upd Q qq x) := by
  have h1 := h.alloc (.cells #[.int .i64 (x : Int)] 3)
  have hplt : k.p ≤ w.heap.size := by obtain ⟨f, hr, _⟩ := h.row; have := hr.lt; omega
  have hs1 : WkStat k (w.alloc (.cells #[.int .i64 (x : Int)] 3)) := hs.same ((Same.refl _ _).alloc _) hplt
  have o1 := hs.o1; have o2 := hs.o2; have o3 := hs.o3
  obtain ⟨f, hr, e0, e1, e2, e3, e4, e5⟩ := h1.row
  have hr2 := hr.setOther (a := ⟨k.bQ, qq, none⟩) (by simp; omega) (.int .i64 (x : Int))
  refine ⟨_, queue_append h hs qq x hqn, ?_, hr2.frozen 5, ((Same.refl _ _).alloc _).setCell (.inl (by simp [Wk.X])) _, ?_, h1.push hs1 qq x hqq⟩
  · have := hs.np
    rw [hr2.cell (by omega), e5]
  · exact (((Same.refl _ _).alloc _).setCell (.inl (by simp [Wk.X])) _).setCell (.inl (by simp [Wk.X])) _

set_option maxHeartbeats 1000000 in
set_option maxRecDepth 8000 in
theorem reach_any (k : Wk) (s : Nat) (D0 V0 : Nat → Int) (q0 : Nat) (Q0 : Nat → Nat) (w : World) (hs : WkStat k w) (hd : WkDyn k w D0 V0 q0 Q0) (hsn : s < k.N.n) :
    Calls Try.prog 47 #[.pointer (some ⟨k.p, 0, none⟩), .int .i64 s] w fun e w' => ∃ D V q Q, Reached k.N s D V q Q ∧ e = .returned (.tuple #[.int .i64 (q : Nat), .int .i64 (D (Q (q - 1)))]) ∧ Same k.X w w' ∧ WkDyn k w' D V q Q := by
  have hn := hs.nle
  have hc := hd.cells hs
  have hplt : k.p ≤ w.heap.size := by obtain ⟨f, hr, _⟩ := hd.row; have := hr.lt; omega
  obtain ⟨c0, c1, c2, c3, c4, c5⟩ := hc
  go_enter Try.func47, Try.ntmps47
  go_wp2
  go_loopg [16] k.N.n (fun g i wr => ∃ j : Nat, j + g = k.N.n ∧ i = .int .i64 j ∧ Same k.X w wr ∧ WkDyn k wr (fun i => if i < j then -1 else D0 i) V0 q0 Q0)
  case atStart => exact ⟨0, by omega, rfl, Same.refl _ _, by simpa using hd⟩
  case round =>
    obtain ⟨j, hj, rfl, hsame, hdyn⟩ := hrel
    clear c0 c1 c2 c3 c4 c5
    have hst := hs.same hsame hplt
    obtain ⟨c0, c1, c2, c3, c4, c5⟩ := hdyn.cells hst
    by_cases hlt : j < k.N.n
    · have hfr := (hdyn.frozen j).2.1
      have hce := hdyn.dist.cell hlt
      clear c0 c1 c2 c4 c5
      go_wp2
      go_roundg (gk - 1)
      case measure => omega
      case rel =>
        refine ⟨j + 1, by omega, by go_num, hsame.setCell (.inl (by simp [Wk.X])) _, (hdyn.setD hst j (-1)).congr ?_ (fun _ _ => rfl)⟩
        intro i hi
        by_cases e : i = j
        · subst e; simp [upd]
        · by_cases e2 : i < j
          · simp [upd, e, e2, show i < j + 1 by omega]
          · simp [upd, e, e2, show ¬ i < j + 1 by omega]
    · have hdyn1 := hdyn.congr (D' := fun _ => -1) (V' := V0) (fun i hi => by simp [show i < j by omega]) (fun _ _ => rfl)
      clear hdyn
      have hf3 := (hdyn1.frozen s).2.1
      have hf4 := (hdyn1.frozen s).2.2.1
      have hd3 := hdyn1.dist.cell hsn
      have hd4 := hdyn1.via.cell hsn
      have hne : k.bD < k.bV := hst.o2
      have hsn' : (s : Int) < (k.N.n : Int) := by omega
      go_upto_region 6 with fail
      go_cut [] (fun wx => Same k.X w wx ∧ WkDyn k wx (upd (fun _ => -1) s 0) (upd V0 s (-1)) q0 Q0)
      case first =>
        go_wp2
        go_region
        all_goals
          go_wp2
          go_meet
          case rel =>
            have h1 := hdyn1.setD hst s 0
            have hsx : Same k.X wr (wr.setCell ⟨k.bD, s, none⟩ (.int .i64 0)) := (Same.refl _ _).setCell (.inl (by simp [Wk.X])) _
            have hpw : k.p ≤ wr.heap.size := Nat.le_trans hplt hsame.size
            exact ⟨((hsame.setCell (.inl (by simp [Wk.X])) _).setCell (.inl (by simp [Wk.X])) _).drew, (h1.setV (hst.same hsx hpw) s (-1)).drew⟩
      case rest =>
        obtain ⟨hsame2, hdyn2⟩ := hcut
        clear hf3 hf4 hd3 hd4 hdyn1 hsame c0 c1 c2 c3 c4 c5 hst
        have hst2 := hs.same hsame2 hplt
        obtain ⟨c0, c1, c2, c3, c4, c5⟩ := hdyn2.cells hst2
        obtain ⟨w2, happ, hcq, hfq, -, hsq, hdq⟩ := queue_push hdyn2 hst2 0 s (by omega) (by omega)
        clear c0 c1 c2 c3 c4
        go_upto_region 7 with fail
        go_cut [] (fun wx => Same k.X w wx ∧ WkDyn k wx (upd (fun _ => -1) s 0) (upd V0 s (-1)) 1 (upd Q0 0 s))
        case first =>
          go_wp2_with (at_builtin; refine wpList_append_run rfl (.tmp 43) (.tmp 45) 22 rfl _ _ _ _ rfl rfl happ ?_)
          go_meet
          case rel => exact ⟨hsame2.trans hsq, hdq⟩
        case rest =>
          rename World => wd
          obtain ⟨hsame3, hdyn3⟩ := hcut
          have hbfs := bfs_start k.N s (upd V0 s (-1)) Q0 hsn
          clear c5 w2 happ hcq hfq hsq hdq hst2 hdyn2 hsame2
          go_wp2
          go_loopg [7] k.N.n (fun g i wr => ∃ i0 : Nat, i0 + g = k.N.n ∧ i = .int .i64 i0 ∧ Same k.X w wr ∧ ∃ D V q Q, BfsInv k.N s i0 0 D V q Q ∧ WkDyn k wr D V q Q)
          case atStart => exact ⟨0, by omega, rfl, hsame3, _, _, _, _, hbfs, hdyn3⟩
          case round =>
            clear hsame3 hdyn3 hbfs
            obtain ⟨i0, hi0, rfl, hsame, D, V, q, Q, hbfs, hdyn⟩ := hrel
            have hst := hs.same hsame hplt
            obtain ⟨c0, c1, c2, c3, c4, c5⟩ := hdyn.cells hst
            have hqle := hbfs.qle
            by_cases hlt : i0 < q
            · have hqi := hbfs.qn i0 hlt
              obtain ⟨gq, hgq, egq⟩ := hdyn.queue
              have cq : wr.cell? ⟨k.bQ, i0, none⟩ = some (.int .i64 (Q i0 : Nat)) := by rw [hgq.cell (by omega), egq i0 hlt]
              obtain ⟨bp, op, hap, hbp, cp⟩ := hst.ports (Q i0) hqi
              have cp' : wr.cell? ⟨bp, op + Q i0, none⟩ = some (.slice (k.PA (Q i0)) (k.N.PL (Q i0)) (k.PC (Q i0))) := cp
              rw [hap] at c0
              have hqi' : (Q i0 : Int) < (k.N.n : Int) := by omega
              obtain ⟨v, hv⟩ : ∃ v, v = Q i0 := ⟨_, rfl⟩
              rw [← hv] at cq cp' hqi' hqi
              have HV : Hid (v = Q i0) := hv
              obtain ⟨A, hA⟩ : ∃ A, A = k.PA v := ⟨_, rfl⟩
              rw [← hA] at cp'
              have HA : Hid (A = k.PA v) := hA
              have hple := hst.ple v hqi
              clear hv cp c1 c2 c3 c4 hgq egq hA
              go_wp2
              go_loopg [73] (k.N.PL v) (fun g i wy => ∃ j : Nat, j + g = k.N.PL v ∧ i = .int .i64 j ∧ Same k.X w wy ∧ ∃ D V q Q, BfsInv k.N s i0 j D V q Q ∧ i0 < q ∧ Hid (v = Q i0) ∧ WkDyn k wy D V q Q)
              case atStart => exact ⟨0, by omega, rfl, hsame, D, V, q, Q, hbfs, hlt, HV, hdyn⟩
              case round =>
                clear hsame hbfs hdyn hlt HV hst c0 c5 hqle cp' cq
                rename World => wy
                obtain ⟨j, hj, rfl, hsame, D, V, q, Q, hbfs, hlt, HV, hdyn⟩ := hrel
                have hst := hs.same hsame hplt
                obtain ⟨c0, c1, c2, c3, c4, c5⟩ := hdyn.cells hst
                have hqle := hbfs.qle
                by_cases hjl : j < k.N.PL v
                · obtain ⟨bq, oq, hpa, hbqp, cpe, cli⟩ := hst.port v hqi j hjl
                  rw [← HA.out] at hpa
                  subst hpa
                  obtain ⟨hpn, hlm⟩ := hst.ok v hqi j hjl
                  have hml := hst.mle
                  obtain ⟨pe, hpe⟩ : ∃ pe, pe = k.N.peer v j := ⟨_, rfl⟩
                  obtain ⟨li, hli⟩ : ∃ li, li = k.N.link v j := ⟨_, rfl⟩
                  rw [← hpe] at cpe hpn
                  rw [← hli] at cli hlm
                  have HPE : Hid (pe = k.N.peer v j) := hpe
                  have HLI : Hid (li = k.N.link v j) := hli
                  clear hpe hli c0 c1 c2 c3 c4 c5
                  have hjl' : (j : Int) < (k.N.PL v : Int) := by omega
                  go_upto_region 14 with fail
                  go_cut [10] (fun pt wx => ∃ g, pt = .pointer (some ⟨g, 0, none⟩) ∧ g ∉ k.X ∧ g < wx.heap.size ∧ wx.cell? ⟨g, 0, none⟩ = some (.int .i64 (pe : Nat)) ∧ wx.cell? ⟨g, 1, none⟩ = some (.int .i64 (li : Nat)) ∧ Same k.X w wx ∧ WkDyn k wx D V q Q)
                  case first =>
                    go_wp2
                    go_meet
                    case rel =>
                      refine ⟨wy.heap.size, rfl, fun hx => ?_, by simp, cell_new _ _ _ _, cell_new _ _ _ _, hsame.alloc _, hdyn.alloc _⟩
                      have := hdyn.lts _ hx
                      omega
                  case rest =>
                    rename World => wa
                    obtain ⟨g, rfl, hgX, hglt, cg0, cg1, hsame1, hdyn1⟩ := hcut
                    clear cpe cli hst hsame hdyn
                    have hst1 := hs.same hsame1 hplt
                    obtain ⟨c0, c1, c2, c3, c4, c5⟩ := hdyn1.cells hst1
                    obtain ⟨bf, of, haf, hbf, cf⟩ := hst1.failed.bool hpn
                    obtain ⟨bc, oc, hac, hbc, cc⟩ := hst1.cut.bool hlm
                    rw [haf] at c1
                    rw [hac] at c2
                    have cd := hdyn1.dist.cell hpn
                    have hpn' : (pe : Int) < (k.N.n : Int) := by omega
                    have hlm' : (li : Int) < (k.N.m : Int) := by omega
                    obtain ⟨fb, hfb⟩ : ∃ fb, fb = k.N.F pe := ⟨_, rfl⟩
                    obtain ⟨cb, hcb⟩ : ∃ cb, cb = k.N.C li := ⟨_, rfl⟩
                    obtain ⟨dp, hdp⟩ : ∃ dp, dp = D pe := ⟨_, rfl⟩
                    rw [← hfb] at cf
                    rw [← hcb] at cc
                    rw [← hdp] at cd
                    have HF : Hid (fb = k.N.F pe) := hfb
                    have HC : Hid (cb = k.N.C li) := hcb
                    have HD : Hid (dp = D pe) := hdp
                    clear hfb hcb hdp
                    have hskip : (fb = true ∨ cb = true ∨ 0 ≤ dp) → BfsInv k.N s i0 (j + 1) D V q Q := by
                      intro hor
                      refine hbfs.skip hst1.ok hlt (by rw [← HV.out]; exact hjl) ?_
                      rw [← HV.out, ← HPE.out, ← HD.out]
                      intro hu
                      obtain ⟨u1, u2⟩ := hu
                      rw [← HPE.out, ← HF.out] at u1
                      rw [← HLI.out, ← HC.out] at u2
                      rcases hor with h | h | h
                      · rw [h] at u1; cases u1
                      · rw [h] at u2; cases u2
                      · exact h
                    cases fb with
                    | true =>
                      have hsk := hskip (.inl rfl)
                      clear hskip
                      go_wp2
                      go_quiet (fail)
                      go_wp2
                      go_roundg (gk - 1)
                      case measure => omega
                      case rel => exact ⟨j + 1, by omega, by go_num, hsame1.drawn _, D, V, q, Q, hsk, hlt, HV, hdyn1.drawn _⟩
                    | false =>
                      cases cb with
                      | true =>
                        have hsk := hskip (.inr (.inl rfl))
                        clear hskip
                        go_wp2
                        go_quiet (fail)
                        go_wp2
                        go_roundg (gk - 1)
                        case measure => omega
                        case rel => exact ⟨j + 1, by omega, by go_num, hsame1.drawn _, D, V, q, Q, hsk, hlt, HV, hdyn1.drawn _⟩
                      | false =>
                        by_cases hdp0 : 0 ≤ dp
                        ·
                          have hsk := hskip (.inr (.inr hdp0))
                          have hdd : decide (0 ≤ dp) = true := decide_eq_true hdp0
                          clear hskip
                          go_wp2
                          go_quiet (fail)
                          go_wp2
                          go_roundg (gk - 1)
                          case measure => omega
                          case rel => exact ⟨j + 1, by omega, by go_num, hsame1.drawn _, D, V, q, Q, hsk, hlt, HV, hdyn1.drawn _⟩
                        · have hdd : decide (0 ≤ dp) = false := decide_eq_false hdp0
                          clear hskip
                          go_wp2
                          go_quiet (fail)
                          go_upto_region 16 with fail
                          have hadd := hbfs.add hst1.ok hlt (by rw [← HV.out]; exact hjl) (by rw [← HV.out]; exact ⟨by rw [← HPE.out]; exact HF.out.symm, by rw [← HLI.out]; exact HC.out.symm⟩) (by rw [← HV.out, ← HPE.out, ← HD.out]; omega)
                          have hroom := hbfs.room hpn (by rw [← HD.out]; omega)
                          rw [← HV.out, ← HPE.out, ← HLI.out] at hadd
                          have cv := hdyn1.dist.cell hqi
                          have hdv0 : 0 ≤ D v := (hbfs.mem v hqi).2 ⟨i0, hlt, HV.out.symm⟩
                          have hdvk : D v ≤ 4096 := by have := hbfs.dk i0 hlt; rw [← HV.out] at this; omega
                          obtain ⟨dv, hdv⟩ : ∃ dv, dv = D v := ⟨_, rfl⟩
                          rw [← hdv] at cv hdv0 hdvk hadd
                          have HDV : Hid (dv = D v) := hdv
                          have HADD := (show Hid _ from hadd)
                          have hfd := (hdyn1.frozen pe).2.1
                          clear hdv hadd c0 c1 c2 c4 c5 cf cc
                          go_cut [] (fun wx => g < wx.heap.size ∧ wx.cell? ⟨g, 0, none⟩ = some (.int .i64 (pe : Nat)) ∧ wx.cell? ⟨g, 1, none⟩ = some (.int .i64 (li : Nat)) ∧ Same k.X w wx ∧ WkDyn k wx (upd D pe (dv + 1)) V q Q)
                          case first =>
                            go_region
                            all_goals
                              go_wp2
                              go_meet
                              case rel =>
                                have hS : Same k.X wa ((wa.drewN (nq + 1)).setCell ⟨k.bD, pe, none⟩ (.int .i64 (dv + 1))) := ((Same.refl _ _).drawn _).setCell (.inl (by simp [Wk.X])) _
                                exact ⟨Nat.lt_of_lt_of_le hglt hS.size, gcell hS hglt hgX cg0, gcell hS hglt hgX cg1, hsame1.trans hS, (hdyn1.drawn (nq + 1)).setD (hst1.below (below_drawn (Below.refl _ _) _)) pe (dv + 1)⟩
                          case rest =>
                            rename World => wb
                            obtain ⟨hglt2, cg0', cg1', hsame2, hdyn2⟩ := hcut
                            clear cg0 cg1 hsame1 hdyn1 hst1 c3 cd cv hfd hglt
                            have hst2 := hs.same hsame2 hplt
                            obtain ⟨c0, c1, c2, c3, c4, c5⟩ := hdyn2.cells hst2
                            have cvv := hdyn2.via.cell hpn
                            have hfv := (hdyn2.frozen pe).2.2.1
                            clear c0 c1 c2 c3 c5
                            go_upto_region 17 with fail
                            go_cut [] (fun wx => g < wx.heap.size ∧ wx.cell? ⟨g, 0, none⟩ = some (.int .i64 (pe : Nat)) ∧ Same k.X w wx ∧ WkDyn k wx (upd D pe (dv + 1)) (upd V pe (li : Nat)) q Q)
                            case first =>
                              go_region
                              all_goals
                                go_wp2
                                go_meet
                                case rel =>
                                  have hS : Same k.X wb (wb.setCell ⟨k.bV, pe, none⟩ (.int .i64 (li : Nat))).drew := ((Same.refl _ _).setCell (.inl (by simp [Wk.X])) _).drew
                                  exact ⟨Nat.lt_of_lt_of_le hglt2 hS.size, gcell hS hglt2 hgX cg0', hsame2.trans hS, (hdyn2.setV hst2 pe (li : Nat)).drew⟩
                            case rest =>
                              rename World => wc2
                              obtain ⟨hglt3, cg0'', hsame3, hdyn3⟩ := hcut
                              clear cg0' cg1' hsame2 hdyn2 hst2 c4 cvv hfv hglt2
                              have hst3 := hs.same hsame3 hplt
                              obtain ⟨c0, c1, c2, c3, c4, c5⟩ := hdyn3.cells hst3
                              have hst3d : WkStat k wc2.drew := hst3.below ⟨rfl, rfl, rfl, Nat.le_refl _, fun _ _ => rfl⟩
                              obtain ⟨w2, happ, hcq, hfq, hs2, hsq, hdq⟩ := queue_push hdyn3.drew hst3d q pe (Nat.le_refl _) hroom
                              have hcg2 := gcell hs2 (show g < wc2.drew.heap.size from hglt3) hgX cg0''
                              have hpl3 : k.p < wc2.heap.size := hdyn3.lts k.p (by simp [Wk.X])
                              have hgp : ¬ g = k.p := fun e => hgX (by rw [e]; simp [Wk.X])
                              clear c0 c1 c2 c3 c4
                              go_upto_region 18 with fail
                              go_region_law (refine step_append_run rfl (.tmp 134) (.tmp 137) 22 rfl _ _ _ _ (by simp [Act.eval, Act.put]) (by simp [Act.eval, Act.put]) happ ?_)
                              all_goals
                                go_wp2
                                go_roundg (gk - 1)
                                case measure => omega
                                case rel => exact ⟨j + 1, by omega, by go_num, hsame3.drew.trans hsq, _, _, _, _, HADD.out, by omega, by rw [upd_ne _ _ _ _ (by omega)]; exact HV, hdq⟩
                · have hnx := hbfs.next hlt (by rw [← HV.out]; omega)
                  go_wp2
                  go_roundg (k.N.n - (i0 + 1))
                  case measure => omega
                  case rel => exact ⟨i0 + 1, by omega, by go_num, hsame, D, V, q, Q, hnx, hdyn⟩
            · have hfin := hbfs.finish hlt
              have hq1 := hbfs.q1
              have hql := hbfs.qn (q - 1) (by omega)
              obtain ⟨gq, hgq, egq⟩ := hdyn.queue
              have cq : wr.cell? ⟨k.bQ, q - 1, none⟩ = some (.int .i64 (Q (q - 1) : Nat)) := by rw [hgq.cell (by omega), egq (q - 1) (by omega)]
              have cd := hdyn.dist.cell hql
              have hql' : (Q (q - 1) : Int) < (k.N.n : Int) := by omega
              clear c0 c1 c2 c4 hgq egq
              go_wp2
              go_quiet (fail)
              go_wp2
              go_ret2
              exact ⟨D, V, q, Q, hfin, rfl, hsame.drawn _, hdyn.drawn _⟩

end Go.Proofs.Qxb6608983a
