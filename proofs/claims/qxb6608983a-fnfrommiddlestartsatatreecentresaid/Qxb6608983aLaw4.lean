import Derived.Test.Qxb6608983aTc
namespace Go.Proofs.Qxb6608983a
open Go.RowKit
set_option linter.unusedVariables false
set_option linter.unusedSimpArgs false

set_option maxHeartbeats 400000 in
theorem bytes18_any (aa ab af ac : Option Addr) (la lb lf lc ca cb cf cc : Nat) (w : World) (h1 : la ≤ 9223372036854775807) (h2 : lb ≤ 9223372036854775807) (h3 : lf ≤ 9223372036854775807) (h4 : lc ≤ 9223372036854775807) :
    Calls Try.prog 18 #[.slice aa la ca, .slice ab lb cb, .slice af lf cf, .slice ac lc cc] w fun e w' => (∃ b, e = .returned (.bool b)) ∧ w = w' := by
  go_enter Try.func18, Try.ntmps18
  go_wp2
  all_goals
    go_ret
    exact ⟨⟨_, rfl⟩, rfl⟩

set_option maxHeartbeats 2000000 in
set_option maxRecDepth 8000 in
theorem law4_main (aa ab af ac : Option Addr) (n m ca cb cf cc lb lc : Nat) (f g : Nat → Int) (F C : Nat → Bool) (w : World) (hn : n ≤ 4096) (hm : m ≤ 4096) (hlb : lb ≤ 4096) (hlc : lc ≤ 4096)
    (hA : At w.heap.size w aa m (fun i => .int .i64 (f i))) (hB : At w.heap.size w ab lb (fun i => .int .i64 (g i))) (hF : At w.heap.size w af n (fun i => .bool (F i))) (hC : At w.heap.size w ac lc (fun i => .bool (C i))) :
    Calls Try.prog 4 #[.slice aa m ca, .slice ab lb cb, .slice af n cf, .slice ac lc cc] w fun e w' => e = .returned (.bool true) ∧ Below w.heap.size w w' := by
  have d1 : decide ((4096 : Int) < (m : Int)) = false := decide_eq_false (by omega)
  have d2 : decide ((4096 : Int) < (lb : Int)) = false := decide_eq_false (by omega)
  have d3 : decide ((4096 : Int) < (n : Int)) = false := decide_eq_false (by omega)
  have d4 : decide ((4096 : Int) < (lc : Int)) = false := decide_eq_false (by omega)
  go_enter Try.func4, Try.ntmps4
  go_wp2_with fail
  refine (bytes18_any _ _ _ _ _ _ _ _ _ _ _ _ _ (by omega) (by omega) (by omega) (by omega)).mono ?_
  rintro e w' ⟨⟨b, rfl⟩, rfl⟩
  cases b with
  | false =>
    go_wp2
    go_ret
    exact ⟨rfl, Below.refl _ _⟩
  | true =>
    go_wp2_with fail
    refine (fit_any n m lb lc ca cb cc aa ab ac f g w.heap.size w (by omega) (by omega) (by omega) (by omega) hA hB).mono ?_
    rintro e w' ⟨⟨b, rfl, hb⟩, q1, rfl⟩
    cases b with
    | false =>
      clear hb
      go_wp2
      go_ret
      exact ⟨rfl, below_drawn (Below.refl _ _) _⟩
    | true =>
      have hfit := hb rfl
      clear hb
      have hfit' := hfit
      obtain ⟨e1, e2, _⟩ := hfit'
      subst e1
      subst e2
      have hlk := lkAt_of hn hm hfit hA hB hF hC
      clear hfit hA hB hC d2 d4
      obtain ⟨L, hL⟩ : ∃ L, L = lkOf n m f g F C := ⟨_, rfl⟩
      have eLn : L.n = n := by rw [hL]; rfl
      have eLm : L.m = m := by rw [hL]; rfl
      have eLF : L.F = F := by rw [hL]; rfl
      rw [← hL] at hlk
      clear hL
      subst eLn
      subst eLm
      subst eLF
      have hlkq : LkAt L w.heap.size (w.drewN q1) aa ab af ac := hlk.below (below_drawn (Below.refl _ _) _)
      obtain ⟨wq, hwq⟩ : ∃ wq, wq = w.drewN q1 := ⟨_, rfl⟩
      have hbq : Below w.heap.size w wq := by rw [hwq]; exact below_drawn (Below.refl _ _) _
      have hzq : wq.heap.size = w.heap.size := by rw [hwq]; rfl
      rw [← hwq] at hlkq ⊢
      have HZQ : Hid (wq.heap.size = w.heap.size) := hzq
      have hB0 : w.heap.size ≤ wq.heap.size := by omega
      clear hwq hzq
      obtain ⟨δ, hδ⟩ : ∃ δ, 0 < L.n → IsDist L.E L.n 0 δ := by
        by_cases h0 : 0 < L.n
        · obtain ⟨δ, h⟩ := dist_exists L.E L.n 0 h0
          exact ⟨δ, fun _ => h⟩
        · exact ⟨fun _ => 0, fun h => absurd h h0⟩
      have htz := treeAtZero_any L w.heap.size wq _ _ _ _ ca cb cf cc δ hlkq hB0 hδ
      go_wp2_with fail
      refine htz.mono ?_
      rintro e wt ⟨b, rfl, hb, hbt⟩
      clear htz
      have hbw0 : Below w.heap.size w wt := hbq.trans (hbt.mono hB0)
      have hlkt := hlkq.below (hbt.mono hB0)
      have hBt : w.heap.size ≤ wt.heap.size := Nat.le_trans hB0 hbt.size
      clear hlkq hbt
      cases b with
      | false =>
        clear hb
        go_wp2
        go_ret
        exact ⟨rfl, hbw0⟩
      | true =>
        obtain ⟨hn0, hF0', htree⟩ := hb rfl
        have hd0 := hδ hn0
        have HF0 : Hid (L.F 0 = false) := hF0'
        clear hb hδ hF0'
        have hP := ports_any L.n L.m ca cb aa ab L.f L.g w.heap.size wt hn hm hBt hlkt.A hlkt.B' hlkt.fits
        go_wp2_with fail
        refine hP.mono ?_
        rintro e w1 ⟨rfl, hb1, S, hS⟩
        clear hP
        have hlk1 := hlkt.below (hb1.mono hBt)
        have hB1 : w.heap.size ≤ w1.heap.size := Nat.le_trans hBt hb1.size
        go_wp2_with fail
        refine (clone_any L.n cf _ L.F w.heap.size w1 (by omega) hB1 hlk1.Fd).mono ?_
        rintro e w2 ⟨aF, cF, rfl, hb2, hFd2, -, -⟩
        have hlk2 := hlk1.below (hb2.mono hB1)
        have hB2 : w.heap.size ≤ w2.heap.size := Nat.le_trans hB1 hb2.size
        go_wp2_with fail
        refine (clone_any L.m cc _ L.C w.heap.size w2 (by omega) hB2 hlk2.Ct).mono ?_
        rintro e w3 ⟨aC, cC, rfl, hb3, hCt3, -, -⟩
        have hlk3 := hlk2.below (hb3.mono hB2)
        have hB3 : w.heap.size ≤ w3.heap.size := Nat.le_trans hB2 hb3.size
        go_wp2_with fail
        refine (newWalk_any _ aF aC L.n L.n cF L.m cC w3 hn).mono ?_
        rintro e w4 ⟨rfl, hb4, hr4, hd41, hd42, hd43⟩
        have hlk4 := hlk3.below (hb4.mono hB3)
        have hB4 : w.heap.size ≤ w4.heap.size := Nat.le_trans hB3 hb4.size
        obtain ⟨hst4, hdy4⟩ := wk_made (cF := cF) (cC := cC) hn hm hlk.fits hS hb1 hb2 hb3 hb4 hFd2 hCt3 hr4 hd41 hd42 hd43
        have hz4 := hd43.lt
        clear hr4 hd41 hd42 hd43 hFd2 hCt3
        go_wp2_with fail
        refine (links_any L.m ca cb _ _ L.f L.g w.heap.size w4 (by omega) hB4 hlk4.A hlk4.B').mono ?_
        rintro e w5 ⟨rfl, hb5, hr5⟩
        have hB5 : w.heap.size ≤ w5.heap.size := Nat.le_trans hB4 hb5.size
        have hz5 := hr5.lt
        go_wp2_with fail
        refine (newSurvey_any _ _ _ _ _ _ _ _ _ _ _ _ _ _ w5).mono ?_
        rintro e w6 ⟨rfl, hb6, r6, hr6, e60, e61, -, -, -, -⟩
        have hz6 := hr6.lt
        obtain ⟨hst6, hdy6, hsv6⟩ := sv_made hst4 hdy4 hb5 hr5 hb6 hr6 e60 e61
        have hlts := hdy6.lts
        have hmid : Calls Try.prog 16 #[.pointer (some ⟨w5.heap.size, 0, none⟩)] w6 fun e w' => ∃ O : Nat → Nat, e = .returned (.slice (some ⟨w6.heap.size, 0, none⟩) L.n L.n) ∧ Same [w3.heap.size, w3.heap.size + 1, w3.heap.size + 2, w3.heap.size + 3] w6 w' ∧ w'.rowIs w6.heap.size 3 L.n (fun i => .int .i64 (O i : Nat)) ∧ MidSpec (netOf L) O :=
          zzmid_any _ _ _ _ _ _ _ _ _ w6 hst6 hdy6 hsv6 hn0 (netOf_portOk L) (fun l hl => ⟨(hlk.fits l hl).1, (hlk.fits l hl).2.1⟩)
        have hB6 : w.heap.size ≤ w6.heap.size := Nat.le_trans hB5 hb6.size
        have hlk6 := (hlk4.below (hb5.mono hB4)).below (hb6.mono hB5)
        have hbw6 : Below w.heap.size w w6 := (((((hbw0.trans (hb1.mono hBt)).trans (hb2.mono hB1)).trans (hb3.mono hB2)).trans (hb4.mono hB3)).trans (hb5.mono hB4)).trans (hb6.mono hB5)
        clear hst6 hdy6 hsv6 hst4 hdy4 hr5 hr6 e60 e61 hlk4 hlk3 hlk2 hlk1 hlkt hb6 hb5 hb4 hb2 hb1 hS
        go_wp2_with fail
        refine hmid.mono ?_
        rintro e w7 ⟨O, rfl, hs7, hO7, hms⟩
        clear hmid
        have hb7 : Below w.heap.size w6 w7 := hs7.toBelow hB6 (by intro x hx; simp at hx; omega)
        have hlk7 := hlk6.below hb7
        have hbw7 := hbw6.trans hb7
        have hB7 : w.heap.size ≤ w7.heap.size := Nat.le_trans hB6 hs7.size
        have hz7 := hO7.lt
        have hcen := mid_centre hms hn0 HF0.out htree
        have hct := centres_any L w.heap.size w7 _ _ _ _ ca cb cf cc δ hlk7 hB7 hd0
        have hO0 := (hcen 0 (by intro r hr; omega)).1
        obtain ⟨bO, hbO⟩ : ∃ b, b = w6.heap.size := ⟨_, rfl⟩
        rw [← hbO]
        rw [← hbO] at hO7 hz7
        have c0 := hO7.cell hn0
        obtain ⟨a, ha⟩ : ∃ a, a = O 0 := ⟨_, rfl⟩
        rw [← ha] at c0 hO0 hcen
        clear hbO hlk6 hbw6 hb7 hs7 hms hlts hz6 hz5 hz4 ha
        have e1 : decide ((a : Int) < 0) = false := decide_eq_false (by omega)
        have e2 : decide (L.n ≤ a) = false := decide_eq_false (by omega)
        have e3 : decide ((L.n : Int) ≤ (a : Int)) = false := decide_eq_false (by omega)
        go_wp2_with fail
        refine hct.mono ?_
        rintro e w8 ⟨bA, R, rfl, hpast, hb8, hr8⟩
        clear hct
        have cc8 := hr8.cell hO0
        rw [(hcen R hpast).2] at cc8
        go_wp2
        go_ret
        exact ⟨rfl, hbw7.trans (hb8.mono hB7)⟩

end Go.Proofs.Qxb6608983a
