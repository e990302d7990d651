import Derived.Test.Qxb6608983aReach
import Derived.Test.Qxb6608983aNst
namespace Go.Proofs.Qxb6608983a
open Go.RowKit
set_option linter.unusedVariables false
set_option linter.unusedSimpArgs false

set_option maxHeartbeats 400000 in
theorem forget_any (pt : Nat) (f : Nat → Value) (w : World) (hr : w.rowIs pt 78 21 f) (h14 : f 14 = .slice none 0 0) :
    Calls Try.prog 48 #[.pointer (some ⟨pt, 0, none⟩)] w fun e w' => e = .returned (.tuple #[]) ∧ Same [pt] w w' ∧ w'.rowIs pt 78 21 f := by
  have c := hr.cell (i := 14) (by omega)
  rw [h14] at c
  have fr := hr.frozen 14
  have hp := hr.lt
  go_enter Try.func48, Try.ntmps48
  go_wp2
  go_loopg [9] 0 (fun g i wr => i = .int .i64 0 ∧ w = wr)
  case atStart => exact ⟨rfl, rfl⟩
  case round =>
    obtain ⟨rfl, rfl⟩ := hrel
    go_wp2
    go_end0
    refine ⟨rfl, (Same.refl _ _).setCell (.inl (by simp)) _, (hr.set 14 _).congr ?_⟩
    intro i _
    by_cases e : i = 14
    · subst e; simp [h14]
    · simp [e]

theorem WkDyn.setP {k : Wk} {w : World} {D V : Nat → Int} {q : Nat} {Q : Nat → Nat} (h : WkDyn k w D V q Q) (hs : WkStat k w) (i : Nat) (hi : 6 ≤ i) (x : Value) : WkDyn k (w.setCell ⟨k.p, i, none⟩ x) D V q Q := by
  obtain ⟨f, hr, e0, e1, e2, e3, e4, e5⟩ := h.row
  obtain ⟨g, hg, eg⟩ := h.queue
  have := hs.o1; have := hs.o2; have := hs.o3
  refine ⟨⟨_, hr.set i x, ?_, ?_, ?_, ?_, ?_, ?_⟩, h.dist.setOther (by simp; omega) _, h.via.setOther (by simp; omega) _, ⟨g, hg.setOther (by simp; omega) _, eg⟩⟩
  · simp [show ¬ 0 = i by omega, e0]
  · simp [show ¬ 1 = i by omega, e1]
  · simp [show ¬ 2 = i by omega, e2]
  · simp [show ¬ 3 = i by omega, e3]
  · simp [show ¬ 4 = i by omega, e4]
  · simp [show ¬ 5 = i by omega, e5]

theorem WkDyn.cellP {k : Wk} {w : World} {D V : Nat → Int} {q : Nat} {Q : Nat → Nat} (h : WkDyn k w D V q Q) (i : Nat) (hi : i < k.np) : ∃ v, w.cell? ⟨k.p, i, none⟩ = some v := by
  obtain ⟨f, hr, _⟩ := h.row
  exact ⟨_, hr.cell hi⟩

set_option maxHeartbeats 400000 in
theorem plant_any (k : Wk) (s : Nat) (D0 V0 : Nat → Int) (q0 : Nat) (Q0 : Nat → Nat) (f : Nat → Value) (w : World) (hs : WkStat k w) (hd : WkDyn k w D0 V0 q0 Q0) (htp : k.tp = 78) (hnp : k.np = 21) (hr : w.rowIs k.p 78 21 f) (h14 : f 14 = .slice none 0 0) (hsn : s < k.N.n) :
    Calls Try.prog 44 #[.pointer (some ⟨k.p, 0, none⟩), .int .i64 s] w fun e w' => ∃ D V q Q, Reached k.N s D V q Q ∧ e = .returned (.tuple #[]) ∧ Same k.X w w' ∧ WkDyn k w' D V q Q ∧ w'.cell? ⟨k.p, 7, none⟩ = some (.int .i64 (D (Q (q - 1)))) := by
  have hp := hr.lt
  have hfo := forget_any k.p f w hr h14
  go_enter Try.func44, Try.ntmps44
  go_wp2_with fail
  refine hfo.mono ?_
  rintro e w1 ⟨rfl, hs1, hr1⟩
  clear hfo
  have hsx : Same k.X w w1 := hs1.mono (by intro x hx; simp at hx; subst hx; exact .inl (by simp [Wk.X]))
  have hst1 := hs.same hsx (by omega)
  have hd1 : WkDyn k w1 D0 V0 q0 Q0 := by
    obtain ⟨g, hg, e⟩ := hd.row
    obtain ⟨gq, hgq, eq⟩ := hd.queue
    have o1 := hs.o1; have o2 := hs.o2; have o3 := hs.o3
    have hfg : ∀ i, i < 6 → f i = g i := by
      intro i hi
      have c1 := hr.cell (i := i) (by omega)
      have c2 := hg.cell (i := i) (by rw [hnp]; omega)
      rw [c1] at c2
      exact Option.some.inj c2
    refine ⟨⟨f, by rw [htp, hnp]; exact hr1, ?_⟩, hs1.rowIs hd.dist (by simp; omega), hs1.rowIs hd.via (by simp; omega), ⟨gq, hs1.rowIs hgq (by simp; omega), eq⟩⟩
    rw [hfg 0 (by omega), hfg 1 (by omega), hfg 2 (by omega), hfg 3 (by omega), hfg 4 (by omega), hfg 5 (by omega)]
    exact e
  have hre := reach_any k s D0 V0 q0 Q0 w1 hst1 hd1 hsn
  go_wp2_with fail
  refine hre.mono ?_
  rintro e w2 ⟨D, V, q, Q, hR, rfl, hs2, hd2⟩
  clear hre
  obtain ⟨x, hx⟩ : ∃ x, x = D (Q (q - 1)) := ⟨_, rfl⟩
  rw [← hx]
  have hst2 := hst1.same hs2 (by have := hsx.size; omega)
  obtain ⟨v7, c7⟩ := hd2.cellP 7 (by rw [hnp]; omega)
  obtain ⟨v8, c8⟩ := hd2.cellP 8 (by rw [hnp]; omega)
  have f7 := (hd2.frozen 7).1
  have f8 := (hd2.frozen 8).1
  have HX := (show Hid _ from hx)
  have hnp8 : 8 ≤ k.np := by omega
  clear hx hd1 hst1 hs1 hr1 hnp htp
  go_wp2
  go_end0
  have hd3 := hd2.setP hst2 7 (by omega) (.int .i64 x)
  have hs3 : Same k.X w2 (w2.setCell ⟨k.p, 7, none⟩ (.int .i64 x)) := (Same.refl _ _).setCell (.inl (by simp [Wk.X])) _
  have hst3 := hst2.same hs3 (by have := hsx.size; have := hs2.size; omega)
  refine ⟨D, V, q, Q, hR, rfl, ((hsx.trans hs2).trans hs3).setCell (.inl (by simp [Wk.X])) _, hd3.setP hst3 8 (by omega) _, ?_⟩
  rw [← HX.out]
  obtain ⟨g, hg, _⟩ := hd2.row
  rw [((hg.set 7 (.int .i64 x)).set 8 (.bool false)).cell (by omega)]
  simp


set_option maxHeartbeats 400000 in
theorem zzplant_any (k : Wk) (s : Nat) (D0 V0 : Nat → Int) (q0 : Nat) (Q0 : Nat → Nat) (f : Nat → Value) (w : World) (hs : WkStat k w) (hd : WkDyn k w D0 V0 q0 Q0) (htp : k.tp = 78) (hnp : k.np = 21) (hr : w.rowIs k.p 78 21 f) (h14 : f 14 = .slice none 0 0) (hsn : s < k.N.n) :
    Calls Try.prog 23 #[.pointer (some ⟨k.p, 0, none⟩), .int .i64 s] w fun e w' => ∃ D V q Q, Reached k.N s D V q Q ∧ e = .returned (.tuple #[]) ∧ Same k.X w w' ∧ WkDyn k w' D V q Q ∧ w'.cell? ⟨k.p, 7, none⟩ = some (.int .i64 (D (Q (q - 1)))) := by
  have hpl := plant_any k s D0 V0 q0 Q0 f w hs hd htp hnp hr h14 hsn
  go_enter Try.func23, Try.ntmps23
  go_wp2_with fail
  refine hpl.mono ?_
  rintro e w1 ⟨D, V, q, Q, h1, rfl, h2, h3, h4⟩
  clear hpl
  go_wp2
  go_end0
  exact ⟨D, V, q, Q, h1, rfl, h2, h3, h4⟩

set_option maxHeartbeats 400000 in
theorem zznewSearchTree_any (p : Nat) (al : Option Addr) (n ml cl : Nat) (aP aF aC : Option Addr) (cP nF cF m cC : Nat) (w : World) (hn : n ≤ 4096) (hml : ml ≤ 4096)
    (h0 : w.cell? ⟨p, 0, none⟩ = some (.slice aP n cP)) (h1 : w.cell? ⟨p, 1, none⟩ = some (.slice aF nF cF)) (h2 : w.cell? ⟨p, 2, none⟩ = some (.slice aC m cC)) (hp : p < w.heap.size) :
    Calls Try.prog 22 #[.pointer (some ⟨p, 0, none⟩), .slice al ml cl] w fun e w' => ∃ pt bD, e = .returned (.pointer (some ⟨pt, 0, none⟩)) ∧ w.heap.size ≤ pt ∧ pt < bD ∧ Same [] w w' ∧
      (∃ f, w'.rowIs pt 78 21 f ∧ f 0 = .slice aP n cP ∧ f 1 = .slice aF nF cF ∧ f 2 = .slice aC m cC ∧ f 3 = .slice (some ⟨bD, 0, none⟩) n n ∧ f 4 = .slice (some ⟨bD + 1, 0, none⟩) n n ∧ f 5 = .slice (some ⟨bD + 2, 0, none⟩) 0 n ∧ f 14 = .slice none 0 0) ∧
      w'.rowIs bD 3 n (fun _ => .int .i64 0) ∧ w'.rowIs (bD + 1) 3 n (fun _ => .int .i64 0) ∧ w'.rowIs (bD + 2) 3 n (fun _ => .int .i64 0) := by
  have hpl := newSearchTree_any p al n ml cl aP aF aC cP nF cF m cC w hn hml h0 h1 h2 hp
  clear h0 h1 h2
  go_enter Try.func22, Try.ntmps22
  go_wp2_with fail
  refine hpl.mono ?_
  rintro e w1 ⟨pt, bD, rfl, h⟩
  clear hpl
  go_wp2
  go_ret
  exact ⟨pt, bD, rfl, h⟩

set_option maxHeartbeats 400000 in
theorem moves_neg (ps : Option Addr) (p : Int) (w : World) : Calls Try.prog 52 #[.pointer ps, .int .i64 (-1), .int .i64 p] w fun e w' => e = .returned (.bool false) ∧ w = w' := by
  go_enter Try.func52, Try.ntmps52
  go_wp2
  go_ret
  exact ⟨rfl, rfl⟩

set_option maxHeartbeats 400000 in
theorem zzdiameter_any (ps : Nat) (d : Int) (w : World) (h : w.cell? ⟨ps, 16, none⟩ = some (.int .i64 d)) : Calls Try.prog 25 #[.pointer (some ⟨ps, 0, none⟩)] w fun e w' => e = .returned (.int .i64 d) ∧ w = w' := by
  go_enter Try.func25, Try.ntmps25
  go_wp2
  go_ret
  exact ⟨rfl, rfl⟩

set_option maxHeartbeats 400000 in
theorem distances_tree (ps : Option Addr) (pt n : Nat) (a : Option Addr) (w : World) (h : w.cell? ⟨pt, 3, none⟩ = some (.slice a n n)) : Calls Try.prog 50 #[.pointer ps, .pointer (some ⟨pt, 0, none⟩), .int .i64 (-1)] w fun e w' => e = .returned (.slice a n n) ∧ w = w' := by
  go_enter Try.func50, Try.ntmps50
  go_wp2
  go_ret
  exact ⟨rfl, rfl⟩

set_option maxHeartbeats 400000 in
theorem distances_walk (ps p n : Nat) (a : Option Addr) (w : World) (h0 : w.cell? ⟨ps, 0, none⟩ = some (.pointer (some ⟨p, 0, none⟩))) (h : w.cell? ⟨p, 3, none⟩ = some (.slice a n n)) : Calls Try.prog 50 #[.pointer (some ⟨ps, 0, none⟩), .pointer none, .int .i64 (-1)] w fun e w' => e = .returned (.slice a n n) ∧ w = w' := by
  go_enter Try.func50, Try.ntmps50
  go_wp2
  go_ret
  exact ⟨rfl, rfl⟩

set_option maxHeartbeats 400000 in
theorem searchFrom_root (ps : Option Addr) (pt bQ q c : Nat) (r : Nat) (x : Int) (w : World) (hq : 1 ≤ q) (h5 : w.cell? ⟨pt, 5, none⟩ = some (.slice (some ⟨bQ, 0, none⟩) q c)) (hQ : w.cell? ⟨bQ, 0, none⟩ = some (.int .i64 (r : Nat))) (h7 : w.cell? ⟨pt, 7, none⟩ = some (.int .i64 x)) :
    Calls Try.prog 49 #[.pointer ps, .pointer (some ⟨pt, 0, none⟩), .int .i64 (-1), .int .i64 (r : Nat)] w fun e w' => e = .returned (.tuple #[.int .i64 x, .pointer (some ⟨pt, 0, none⟩)]) ∧ w = w' := by
  have hq' : (0 : Int) < (q : Int) := by omega
  go_enter Try.func49, Try.ntmps49
  go_wp2
  go_ret2
  exact ⟨rfl, rfl⟩

set_option maxHeartbeats 400000 in
theorem searchFrom_other (k : Wk) (ps pt bQ q c : Nat) (r p : Nat) (D0 V0 : Nat → Int) (q0 : Nat) (Q0 : Nat → Nat) (w : World) (hs : WkStat k w) (hd : WkDyn k w D0 V0 q0 Q0) (hq : 1 ≤ q) (h5 : w.cell? ⟨pt, 5, none⟩ = some (.slice (some ⟨bQ, 0, none⟩) q c)) (hQ : w.cell? ⟨bQ, 0, none⟩ = some (.int .i64 (r : Nat)))
    (h0 : w.cell? ⟨ps, 0, none⟩ = some (.pointer (some ⟨k.p, 0, none⟩))) (hpr : p ≠ r) (hp : p < k.N.n) :
    Calls Try.prog 49 #[.pointer (some ⟨ps, 0, none⟩), .pointer (some ⟨pt, 0, none⟩), .int .i64 (-1), .int .i64 (p : Nat)] w fun e w' => ∃ D V q Q, Reached k.N p D V q Q ∧ e = .returned (.tuple #[.int .i64 (D (Q (q - 1))), .pointer none]) ∧ Same k.X w w' ∧ WkDyn k w' D V q Q := by
  have hq' : (0 : Int) < (q : Int) := by omega
  have hne : ((p : Int) == (r : Int)) = false := by simp; omega
  have hre := reach_any k p D0 V0 q0 Q0 w hs hd hp
  go_enter Try.func49, Try.ntmps49
  go_wp2_with fail
  refine hre.mono ?_
  rintro e w1 ⟨D, V, q1, Q, hR, rfl, hs1, hd1⟩
  clear hre h0 h5 hQ
  go_wp2
  go_ret2
  exact ⟨D, V, q1, Q, hR, rfl, hs1, hd1⟩

set_option maxHeartbeats 400000 in
theorem same_any (n : Nat) (a b : Option Addr) (ca cb : Nat) (f : Nat → Bool) (B B' : Nat) (w : World) (hn : n ≤ 1048576) (hA : At B w a n (fun i => .bool (f i))) (hB : At B' w b n (fun i => .bool (f i))) :
    Calls Try.prog 28 #[.slice a n ca, .slice b n cb] w fun e w' => e = .returned (.bool true) ∧ ∃ q, w' = w.drewN q := by
  go_enter Try.func28, Try.ntmps28
  go_wp2
  go_loopg [5] n (fun g i wr => ∃ j : Nat, j + g = n ∧ i = .int .i64 j ∧ ∃ q, wr = w.drewN q)
  case atStart => exact ⟨0, by omega, rfl, 0, rfl⟩
  case round =>
    obtain ⟨j, hj, rfl, q, rfl⟩ := hrel
    by_cases hlt : j < n
    · obtain ⟨b1, o1, rfl, _, c1⟩ := hA.bool hlt
      obtain ⟨b2, o2, rfl, _, c2⟩ := hB.bool hlt
      have hlt' : (j : Int) < (n : Int) := by omega
      obtain ⟨x, hx⟩ : ∃ x, x = f j := ⟨_, rfl⟩
      rw [← hx] at c1 c2
      clear hx hA hB
      cases x with
      | false =>
        go_wp2
        go_quiet (fail)
        go_wp2
        go_roundg (gk - 1)
        case measure => omega
        case rel => exact ⟨j + 1, by omega, by go_num, _, rfl⟩
      | true =>
        go_wp2
        go_quiet (fail)
        go_wp2
        go_roundg (gk - 1)
        case measure => omega
        case rel => exact ⟨j + 1, by omega, by go_num, _, rfl⟩
    · go_wp2
      go_ret
      exact ⟨rfl, q, rfl⟩

set_option maxHeartbeats 400000 in
theorem bytes21_any (aa ab af ac : Option Addr) (la lb lf lc ca cb cf cc : Nat) (r d : Int) (w : World) (h1 : la ≤ 9223372036854775807) (h2 : lb ≤ 9223372036854775807) (h3 : lf ≤ 9223372036854775807) (h4 : lc ≤ 9223372036854775807) :
    Calls Try.prog 21 #[.slice aa la ca, .slice ab lb cb, .slice af lf cf, .slice ac lc cc, .int .i64 r, .int .i64 d] w fun e w' => (∃ b, e = .returned (.bool b)) ∧ w = w' := by
  go_enter Try.func21, Try.ntmps21
  go_wp2
  all_goals
    go_ret
    exact ⟨⟨_, rfl⟩, rfl⟩

end Go.Proofs.Qxb6608983a
