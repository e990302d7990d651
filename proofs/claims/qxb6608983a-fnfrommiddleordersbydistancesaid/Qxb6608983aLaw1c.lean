import Derived.Test.Qxb6608983aLaw1b
namespace Go.Proofs.Qxb6608983a
open Go.RowKit
set_option linter.unusedVariables false
set_option linter.unusedSimpArgs false

/-- What has been seen of the first j. -/
def sn (O : Nat → Nat) (j v : Nat) : Bool := (List.range j).any fun i => O i == v
theorem sn_zero (O : Nat → Nat) (v : Nat) : sn O 0 v = false := by simp [sn]
theorem sn_succ (O : Nat → Nat) (j v : Nat) : sn O (j + 1) v = (sn O j v || O j == v) := by
  unfold sn
  rw [List.range_succ, List.any_append]
  simp
theorem sn_new {n : Nat} {O : Nat → Nat} (inj : ∀ i i', i < n → i' < n → O i = O i' → i = i') {j : Nat} (hj : j < n) : sn O j (O j) = false := by
  unfold sn
  rw [List.any_eq_false]
  intro i hi
  simp at hi ⊢
  intro e
  have := inj i j (by omega) hj e
  omega

set_option maxHeartbeats 2000000 in
set_option maxRecDepth 8000 in
theorem law1_main (aa ab af ac : Option Addr) (n m ca cb cf cc lb lc : Nat) (f g : Nat → Int) (F C : Nat → Bool) (w : World) (hn : n ≤ 4096) (hm : m ≤ 4096) (hlb : lb ≤ 4096) (hlc : lc ≤ 4096)
    (hA : At w.heap.size w aa m (fun i => .int .i64 (f i))) (hB : At w.heap.size w ab lb (fun i => .int .i64 (g i))) (hF : At w.heap.size w af n (fun i => .bool (F i))) (hC : At w.heap.size w ac lc (fun i => .bool (C i))) :
    Calls Try.prog 3 #[.slice aa m ca, .slice ab lb cb, .slice af n cf, .slice ac lc cc] w fun e w' => e = .returned (.bool true) ∧ Below w.heap.size w w' := by
  have d1 : decide ((4096 : Int) < (m : Int)) = false := decide_eq_false (by omega)
  have d2 : decide ((4096 : Int) < (lb : Int)) = false := decide_eq_false (by omega)
  have d3 : decide ((4096 : Int) < (n : Int)) = false := decide_eq_false (by omega)
  have d4 : decide ((4096 : Int) < (lc : Int)) = false := decide_eq_false (by omega)
  go_enter Try.func3, Try.ntmps3
  go_wp2_with fail
  refine (bytes9_any _ _ _ _ _ _ _ _ _ _ _ _ _ (by omega) (by omega) (by omega) (by omega)).mono ?_
  rintro e w' ⟨⟨b, rfl⟩, rfl⟩
  cases b with
  | false =>
    go_wp2
    go_ret
    exact ⟨rfl, Below.refl _ _⟩
  | true =>
    go_wp2_with fail
    refine (fit_any n m lb lc ca cb cc aa ab ac f g w.heap.size w (by omega) (by omega) (by omega) (by omega) hA hB).mono ?_
    rintro e w' ⟨⟨b, rfl, hb⟩, q1, rfl⟩
    cases b with
    | false =>
      clear hb
      go_wp2
      go_ret
      exact ⟨rfl, below_drawn (Below.refl _ _) _⟩
    | true =>
      have hfit := hb rfl
      clear hb
      have hfit' := hfit
      obtain ⟨e1, e2, _⟩ := hfit'
      subst e1
      subst e2
      have hlk := lkAt_of hn hm hfit hA hB hF hC
      clear hfit hA hB hC d2 d4
      by_cases hF0 : 0 < n ∧ F 0 = true
      · obtain ⟨hn0, hF0⟩ := hF0
        obtain ⟨bf, of, rfl, _, cf0⟩ := hF.bool hn0
        rw [hF0, Nat.add_zero] at cf0
        have hn0' : (0 : Int) < (n : Int) := by omega
        go_wp2
        go_ret
        exact ⟨rfl, below_drawn (Below.refl _ _) _⟩
      · obtain ⟨L, hL⟩ : ∃ L, L = lkOf n m f g F C := ⟨_, rfl⟩
        have eLn : L.n = n := by rw [hL]; rfl
        have eLm : L.m = m := by rw [hL]; rfl
        have eLF : L.F = F := by rw [hL]; rfl
        rw [← hL] at hlk
        clear hL
        subst eLn
        subst eLm
        subst eLF
        -- the world behind the test
        have hlkq : LkAt L w.heap.size (w.drewN q1) aa ab af ac := hlk.below (below_drawn (Below.refl _ _) _)
        obtain ⟨wq, hwq⟩ : ∃ wq, wq = w.drewN q1 := ⟨_, rfl⟩
        have hbq : Below w.heap.size w wq := by rw [hwq]; exact below_drawn (Below.refl _ _) _
        have hzq : wq.heap.size = w.heap.size := by rw [hwq]; rfl
        rw [← hwq] at hlkq ⊢
        have HZQ : Hid (wq.heap.size = w.heap.size) := hzq
        have hB0 : w.heap.size ≤ wq.heap.size := by omega
        clear hwq hzq
        have hP := ports_any L.n L.m ca cb aa ab L.f L.g w.heap.size wq hn hm hB0 hlkq.A hlkq.B' hlkq.fits
        by_cases hn0 : 0 < L.n
        · have hF0' : L.F 0 = false := by
            cases hq : L.F 0 with
            | false => rfl
            | true => exact absurd ⟨hn0, hq⟩ hF0
          obtain ⟨bf, of, rfl, _, cf0⟩ := hlkq.Fd.bool hn0
          rw [hF0', Nat.add_zero] at cf0
          have hn0' : (0 : Int) < (L.n : Int) := by omega
          clear hF0
          go_wp2_with fail
          refine hP.mono ?_
          rintro e w1 ⟨rfl, hb1, S, hS⟩
          clear hP cf0
          have hlk1 := hlkq.below (hb1.mono hB0)
          have hB1 : w.heap.size ≤ w1.heap.size := Nat.le_trans hB0 hb1.size
          go_wp2_with fail
          refine (clone_any L.n cf _ L.F w.heap.size w1 (by omega) hB1 hlk1.Fd).mono ?_
          rintro e w2 ⟨aF, cF, rfl, hb2, hFd2, -, -⟩
          have hlk2 := hlk1.below (hb2.mono hB1)
          have hB2 : w.heap.size ≤ w2.heap.size := Nat.le_trans hB1 hb2.size
          go_wp2_with fail
          refine (clone_any L.m cc _ L.C w.heap.size w2 (by omega) hB2 hlk2.Ct).mono ?_
          rintro e w3 ⟨aC, cC, rfl, hb3, hCt3, -, -⟩
          have hlk3 := hlk2.below (hb3.mono hB2)
          have hB3 : w.heap.size ≤ w3.heap.size := Nat.le_trans hB2 hb3.size
          go_wp2_with fail
          refine (newWalk_any _ aF aC L.n L.n cF L.m cC w3 hn).mono ?_
          rintro e w4 ⟨rfl, hb4, hr4, hd41, hd42, hd43⟩
          have hlk4 := hlk3.below (hb4.mono hB3)
          have hB4 : w.heap.size ≤ w4.heap.size := Nat.le_trans hB3 hb4.size
          obtain ⟨hst4, hdy4⟩ := wk_made (cF := cF) (cC := cC) hn hm hlk.fits hS hb1 hb2 hb3 hb4 hFd2 hCt3 hr4 hd41 hd42 hd43
          have hz4 := hd43.lt
          clear hr4 hd41 hd42 hd43 hFd2 hCt3
          go_wp2_with fail
          refine (links_any L.m ca cb _ _ L.f L.g w.heap.size w4 (by omega) hB4 hlk4.A hlk4.B').mono ?_
          rintro e w5 ⟨rfl, hb5, hr5⟩
          have hB5 : w.heap.size ≤ w5.heap.size := Nat.le_trans hB4 hb5.size
          have hz5 := hr5.lt
          go_wp2_with fail
          refine (newSurvey_any _ _ _ _ _ _ _ _ _ _ _ _ _ _ w5).mono ?_
          rintro e w6 ⟨rfl, hb6, r6, hr6, e60, e61, -, -, -, -⟩
          have hz6 := hr6.lt
          obtain ⟨hst6, hdy6, hsv6⟩ := sv_made hst4 hdy4 hb5 hr5 hb6 hr6 e60 e61
          have hlts := hdy6.lts
          have hmid : Calls Try.prog 16 #[.pointer (some ⟨w5.heap.size, 0, none⟩)] w6 fun e w' => ∃ O : Nat → Nat, e = .returned (.slice (some ⟨w6.heap.size, 0, none⟩) L.n L.n) ∧ Same [w3.heap.size, w3.heap.size + 1, w3.heap.size + 2, w3.heap.size + 3] w6 w' ∧ w'.rowIs w6.heap.size 3 L.n (fun i => .int .i64 (O i : Nat)) ∧ MidSpec (netOf L) O :=
            zzmid_any _ _ _ _ _ _ _ _ _ w6 hst6 hdy6 hsv6 hn0 (netOf_portOk L) (fun l hl => ⟨(hlk.fits l hl).1, (hlk.fits l hl).2.1⟩)
          have hB6 : w.heap.size ≤ w6.heap.size := Nat.le_trans hB5 hb6.size
          have hlk6 := (hlk4.below (hb5.mono hB4)).below (hb6.mono hB5)
          have hbw6 : Below w.heap.size w w6 := (((((hbq.trans (hb1.mono hB0)).trans (hb2.mono hB1)).trans (hb3.mono hB2)).trans (hb4.mono hB3)).trans (hb5.mono hB4)).trans (hb6.mono hB5)
          clear hst6 hdy6 hsv6 hst4 hdy4 hr5 hr6 e60 e61 hlk4 hlk3 hlk2 hlk1 hlkq hb6 hb5 hb4 hb2 hb1 hS
          go_wp2_with fail
          refine hmid.mono ?_
          rintro e w7 ⟨O, rfl, hs7, hO7, hms⟩
          clear hmid
          have hb7 : Below w.heap.size w6 w7 := hs7.toBelow hB6 (by intro x hx; simp at hx; omega)
          have hlk7 := hlk6.below hb7
          have hbw7 := hbw6.trans hb7
          have hB7 : w.heap.size ≤ w7.heap.size := Nat.le_trans hB6 hs7.size
          have hz7 := hO7.lt
          obtain ⟨bO, hbO⟩ : ∃ b, b = w6.heap.size := ⟨_, rfl⟩
          rw [← hbO]
          rw [← hbO] at hO7 hz7
          obtain ⟨δ, q, Q, hδ, hδ0, hq1, hqn, hpos, hmono, hord⟩ := mid_law hms hn0 hF0'
          clear hbO hlk6 hbw6 hb7 hs7 hms hlts hz6 hz5 hz4
          have hn0z : ((L.n : Int) == 0) = false := by simp; omega
          have hmkb := run_make_row' (P := Try.prog) 23 4 (.bool false) 1 Try.underlying23 Try.info4 rfl .i64 .i64 L.n (by omega) (by omega)
          go_wp2
          go_loopg [14] L.n (fun g0 iv wr => ∃ j : Nat, j + g0 = L.n ∧ iv = .int .i64 j ∧ Below w7.heap.size w7 wr ∧ wr.rowIs w7.heap.size 4 L.n (fun v => .bool (sn O j v)))
          case atStart =>
            refine ⟨0, by omega, rfl, (Below.refl _ _).alloc (Nat.le_refl _) _, (World.rowIs_made w7 (.bool false) L.n 4).congr ?_⟩
            intro v _
            rw [sn_zero]
          case round =>
            obtain ⟨j, hj, rfl, hb8, hs8⟩ := hrel
            clear hmkb
            have hO8 : wr.rowIs bO 3 L.n (fun i => .int .i64 (O i : Nat)) := hO7.of_block (hb8.block _ hz7)
            by_cases hjn : j < L.n
            · have co := hO8.cell hjn
              have hOn := hord.on j hjn
              have hOn' : O j < L.n := hOn
              have cs := hs8.cell hOn'
              rw [sn_new hord.inj hjn] at cs
              have hfs := hs8.frozen (O j)
              have hjn' : (j : Int) < (L.n : Int) := by omega
              obtain ⟨p, hp⟩ : ∃ p, p = O j := ⟨_, rfl⟩
              rw [← hp] at co cs hfs hOn'
              have HP : Hid (p = O j) := hp
              clear hp hOn
              have e1 : decide ((p : Int) < 0) = false := decide_eq_false (by omega)
              have e2 : decide (L.n ≤ p) = false := decide_eq_false (by omega)
              have e3 : decide ((L.n : Int) ≤ (p : Int)) = false := decide_eq_false (by omega)
              go_wp2
              go_roundg (gk - 1)
              case measure => omega
              case rel =>
                refine ⟨j + 1, by omega, by go_num, hb8.setCell (Nat.le_refl _) _, (hs8.set p (.bool true)).congr ?_⟩
                intro v hv
                rw [sn_succ, ← HP.out]
                by_cases e : v = p
                · subst e; simp
                · have : (p == v) = false := by simpa using fun h => e h.symm
                  simp [e, this]
            · have co := hO8.cell hn0
              have hlk8 := hlk7.below (hb8.mono hB7)
              have hB8 : w.heap.size ≤ wr.heap.size := Nat.le_trans hB7 hb8.size
              have hzd := zzDist_any L w.heap.size wr _ _ _ _ ca cb cf cc (O 0) δ hlk8 hB8 hδ
              have hbw8 : Below w.heap.size w wr := hbw7.trans (hb8.mono hB7)
              have hz8 : bO < wr.heap.size := Nat.lt_of_lt_of_le hz7 hb8.size
              clear hs8 hlk8 hlk7 hO7
              go_wp2_with fail
              refine hzd.mono ?_
              rintro e w9 ⟨rfl, hb9, hd9⟩
              clear hzd
              have hO9 : w9.rowIs bO 3 L.n (fun i => .int .i64 (O i : Nat)) := hO8.of_block (hb9.block _ hz8)
              have hbw9 : Below w.heap.size w w9 := hbw8.trans (hb9.mono hB8)
              have c00 := hd9.cell hn0
              obtain ⟨z0, hz0⟩ : ∃ z, z = δ 0 := ⟨_, rfl⟩
              rw [← hz0] at c00 hδ0
              have e0 : decide (z0 < 0) = false := decide_eq_false (by omega)
              obtain ⟨bd, hbd⟩ : ∃ b, b = wr.heap.size := ⟨_, rfl⟩
              rw [← hbd]
              rw [← hbd] at hd9 c00
              clear hz0 hbd co hO8 hb9
              go_wp2
              go_loopg [17] (L.n + 1) (fun g0 kv wx => ∃ j : Nat, j + g0 = L.n + 1 ∧ j ≤ q ∧ kv = .int .i64 j ∧ ∃ r, wx = w9.drewN r)
              case atStart => exact ⟨0, by omega, by omega, rfl, 0, rfl⟩
              case round =>
                clear c00
                obtain ⟨k, hk, hkq, rfl, r, rfl⟩ := hrel
                by_cases hkq2 : k < q
                · have hkn : k < L.n := by omega
                  have co := hO9.cell hkn
                  have hOn : O k < L.n := hord.on k hkn
                  have cd := hd9.cell hOn
                  have hp := hpos k hkq2
                  obtain ⟨a, ha⟩ : ∃ a, a = O k := ⟨_, rfl⟩
                  rw [← ha] at co cd hOn hp
                  obtain ⟨x, hx⟩ : ∃ x, x = δ a := ⟨_, rfl⟩
                  rw [← hx] at cd hp
                  have f1 : decide (0 ≤ x) = true := decide_eq_true hp
                  have hkn' : (k : Int) < (L.n : Int) := by omega
                  have hOn' : (a : Int) < (L.n : Int) := by omega
                  by_cases hk0 : k = 0
                  · subst hk0
                    clear ha hx
                    go_wp2
                    go_quiet (fail)
                    go_wp2
                    go_roundg (gk - 1)
                    case measure => omega
                    case rel => exact ⟨1, by omega, by omega, rfl, _, rfl⟩
                  · have f2 : decide ((0 : Int) < (k : Int)) = true := decide_eq_true (by omega)
                    have f2' : decide (0 < k) = true := decide_eq_true (by omega)
                    have co2 := hO9.cell (i := k - 1) (by omega)
                    have hOn2 : O (k - 1) < L.n := hord.on (k - 1) (show k - 1 < L.n by omega)
                    have cd2 := hd9.cell hOn2
                    have hmo := hmono (k - 1) k (by omega) hkq2
                    obtain ⟨b, hb⟩ : ∃ b, b = O (k - 1) := ⟨_, rfl⟩
                    rw [← hb] at co2 cd2 hOn2 hmo
                    rw [← ha, ← hx] at hmo
                    obtain ⟨y, hy⟩ : ∃ y, y = δ b := ⟨_, rfl⟩
                    rw [← hy] at cd2 hmo
                    have f3 : decide (x < y) = false := decide_eq_false (by omega)
                    have hi4 : (1 : Int) ≤ (k : Int) := by omega
                    have hOn2' : (b : Int) < (L.n : Int) := by omega
                    clear ha hb hx hy
                    go_wp2
                    go_quiet (fail)
                    go_wp2
                    go_roundg (gk - 1)
                    case measure => omega
                    case rel => exact ⟨k + 1, by omega, by omega, by go_num, _, rfl⟩
                · obtain rfl : k = q := by omega
                  by_cases hqn2 : k < L.n
                  · have co := hO9.cell hqn2
                    have hOn : O k < L.n := hord.on k hqn2
                    have cd := hd9.cell hOn
                    have hneg := hord.tail k (Nat.le_refl _) hqn2
                    obtain ⟨a, ha⟩ : ∃ a, a = O k := ⟨_, rfl⟩
                    rw [← ha] at co cd hOn hneg
                    obtain ⟨x, hx⟩ : ∃ x, x = δ a := ⟨_, rfl⟩
                    rw [← hx] at cd hneg
                    have f1 : decide (0 ≤ x) = false := decide_eq_false (by omega)
                    have hkn' : (k : Int) < (L.n : Int) := by omega
                    have hOn' : (a : Int) < (L.n : Int) := by omega
                    clear ha hx
                    go_wp2
                    clear co cd hneg f1 hOn hOn'
                    go_loopg [18] (L.n - k) (fun g0 kv wx => ∃ j : Nat, j + g0 = L.n ∧ k ≤ j ∧ kv = .int .i64 j ∧ ∃ r, wx = w9.drewN r)
                    case atStart => exact ⟨k, by omega, Nat.le_refl _, rfl, r, rfl⟩
                    case round =>
                      obtain ⟨i, hi, hqi, rfl, r2, rfl⟩ := hrel
                      by_cases hin : i < L.n
                      · have co := hO9.cell hin
                        have hOn : O i < L.n := hord.on i hin
                        have cd := hd9.cell hOn
                        have hneg := hord.tail i hqi hin
                        obtain ⟨a, ha⟩ : ∃ a, a = O i := ⟨_, rfl⟩
                        rw [← ha] at co cd hOn hneg
                        obtain ⟨x, hx⟩ : ∃ x, x = δ a := ⟨_, rfl⟩
                        rw [← hx] at cd hneg
                        have f1 : decide (0 ≤ x) = false := decide_eq_false (by omega)
                        have hin' : (i : Int) < (L.n : Int) := by omega
                        have hOn' : (a : Int) < (L.n : Int) := by omega
                        by_cases hqi2 : i = k
                        · subst hqi2
                          clear ha hx
                          go_wp2
                          go_quiet (fail)
                          go_wp2
                          go_roundg (gk - 1)
                          case measure => omega
                          case rel => exact ⟨i + 1, by omega, by omega, by go_num, _, rfl⟩
                        · have f2 : decide (k < i) = true := decide_eq_true (by omega)
                          have f2' : decide ((k : Int) < (i : Int)) = true := decide_eq_true (by omega)
                          have co2 := hO9.cell (i := i - 1) (by omega)
                          have hasc := hord.asc (i - 1) i (by omega) (by omega) hin
                          obtain ⟨b, hb⟩ : ∃ b, b = O (i - 1) := ⟨_, rfl⟩
                          rw [← hb] at co2 hasc
                          rw [← ha] at hasc
                          have f3 : decide (a ≤ b) = false := decide_eq_false (by omega)
                          have f3' : decide ((a : Int) ≤ (b : Int)) = false := decide_eq_false (by omega)
                          have hi4 : (1 : Int) ≤ (i : Int) := by omega
                          clear ha hb hx
                          go_wp2
                          go_quiet (fail)
                          go_wp2
                          go_roundg (gk - 1)
                          case measure => omega
                          case rel => exact ⟨i + 1, by omega, by omega, by go_num, _, rfl⟩
                      · go_wp2
                        go_ret
                        exact ⟨rfl, below_drawn hbw9 _⟩
                  · go_wp2
                    go_loopg [18] (L.n - k) (fun g0 kv wx => ∃ j : Nat, j + g0 = L.n ∧ k ≤ j ∧ kv = .int .i64 j ∧ ∃ r, wx = w9.drewN r)
                    case atStart => exact ⟨k, by omega, Nat.le_refl _, rfl, r, rfl⟩
                    case round =>
                      obtain ⟨i, hi, hqi, rfl, r2, rfl⟩ := hrel
                      by_cases hin : i < L.n
                      · have co := hO9.cell hin
                        have hOn : O i < L.n := hord.on i hin
                        have cd := hd9.cell hOn
                        have hneg := hord.tail i hqi hin
                        obtain ⟨a, ha⟩ : ∃ a, a = O i := ⟨_, rfl⟩
                        rw [← ha] at co cd hOn hneg
                        obtain ⟨x, hx⟩ : ∃ x, x = δ a := ⟨_, rfl⟩
                        rw [← hx] at cd hneg
                        have f1 : decide (0 ≤ x) = false := decide_eq_false (by omega)
                        have hin' : (i : Int) < (L.n : Int) := by omega
                        have hOn' : (a : Int) < (L.n : Int) := by omega
                        by_cases hqi2 : i = k
                        · subst hqi2
                          clear ha hx
                          go_wp2
                          go_quiet (fail)
                          go_wp2
                          go_roundg (gk - 1)
                          case measure => omega
                          case rel => exact ⟨i + 1, by omega, by omega, by go_num, _, rfl⟩
                        · have f2 : decide (k < i) = true := decide_eq_true (by omega)
                          have f2' : decide ((k : Int) < (i : Int)) = true := decide_eq_true (by omega)
                          have co2 := hO9.cell (i := i - 1) (by omega)
                          have hasc := hord.asc (i - 1) i (by omega) (by omega) hin
                          obtain ⟨b, hb⟩ : ∃ b, b = O (i - 1) := ⟨_, rfl⟩
                          rw [← hb] at co2 hasc
                          rw [← ha] at hasc
                          have f3 : decide (a ≤ b) = false := decide_eq_false (by omega)
                          have f3' : decide ((a : Int) ≤ (b : Int)) = false := decide_eq_false (by omega)
                          have hi4 : (1 : Int) ≤ (i : Int) := by omega
                          clear ha hb hx
                          go_wp2
                          go_quiet (fail)
                          go_wp2
                          go_roundg (gk - 1)
                          case measure => omega
                          case rel => exact ⟨i + 1, by omega, by omega, by go_num, _, rfl⟩
                      · go_wp2
                        go_ret
                        exact ⟨rfl, below_drawn hbw9 _⟩
        · have hnz : L.n = 0 := by omega
          have g1 : decide ((0 : Int) < (L.n : Int)) = false := decide_eq_false (by omega)
          have g1' : decide (0 < L.n) = false := decide_eq_false (by omega)
          have g2 : ((0 : Int) != (L.n : Int)) = false := by simp; omega
          have g3 : ((L.n : Int) == 0) = true := by simp; omega
          have HNZ : Hid (L.n = 0) := hnz
          clear hF0 hnz
          go_wp2_with fail
          refine hP.mono ?_
          rintro e w1 ⟨rfl, hb1, S, hS⟩
          clear hP
          have hlk1 := hlkq.below (hb1.mono hB0)
          have hB1 : w.heap.size ≤ w1.heap.size := Nat.le_trans hB0 hb1.size
          go_wp2_with fail
          refine (clone_any L.n cf _ L.F w.heap.size w1 (by omega) hB1 hlk1.Fd).mono ?_
          rintro e w2 ⟨aF, cF, rfl, hb2, hFd2, -, -⟩
          have hlk2 := hlk1.below (hb2.mono hB1)
          have hB2 : w.heap.size ≤ w2.heap.size := Nat.le_trans hB1 hb2.size
          go_wp2_with fail
          refine (clone_any L.m cc _ L.C w.heap.size w2 (by omega) hB2 hlk2.Ct).mono ?_
          rintro e w3 ⟨aC, cC, rfl, hb3, hCt3, -, -⟩
          have hlk3 := hlk2.below (hb3.mono hB2)
          have hB3 : w.heap.size ≤ w3.heap.size := Nat.le_trans hB2 hb3.size
          go_wp2_with fail
          refine (newWalk_any _ aF aC L.n L.n cF L.m cC w3 hn).mono ?_
          rintro e w4 ⟨rfl, hb4, hr4, hd41, hd42, hd43⟩
          have hlk4 := hlk3.below (hb4.mono hB3)
          have hB4 : w.heap.size ≤ w4.heap.size := Nat.le_trans hB3 hb4.size
          obtain ⟨hst4, hdy4⟩ := wk_made (cF := cF) (cC := cC) hn hm hlk.fits hS hb1 hb2 hb3 hb4 hFd2 hCt3 hr4 hd41 hd42 hd43
          clear hr4 hd41 hd42 hd43 hFd2 hCt3
          go_wp2_with fail
          refine (links_any L.m ca cb _ _ L.f L.g w.heap.size w4 (by omega) hB4 hlk4.A hlk4.B').mono ?_
          rintro e w5 ⟨rfl, hb5, hr5⟩
          have hB5 : w.heap.size ≤ w5.heap.size := Nat.le_trans hB4 hb5.size
          go_wp2_with fail
          refine (newSurvey_any _ _ _ _ _ _ _ _ _ _ _ _ _ _ w5).mono ?_
          rintro e w6 ⟨rfl, hb6, r6, hr6, e60, e61, -, -, -, -⟩
          obtain ⟨hst6, hdy6, hsv6⟩ := sv_made hst4 hdy4 hb5 hr5 hb6 hr6 e60 e61
          have hmid : Calls Try.prog 16 #[.pointer (some ⟨w5.heap.size, 0, none⟩)] w6 fun e w' => (∃ a c, e = .returned (.slice a 0 c)) ∧ Same [w3.heap.size, w3.heap.size + 1, w3.heap.size + 2, w3.heap.size + 3] w6 w' :=
            zzmid_zero _ _ _ _ _ _ _ _ _ w6 hst6 hdy6 hsv6 HNZ.out
          have hB6 : w.heap.size ≤ w6.heap.size := Nat.le_trans hB5 hb6.size
          have hbw6 : Below w.heap.size w w6 := (((((hbq.trans (hb1.mono hB0)).trans (hb2.mono hB1)).trans (hb3.mono hB2)).trans (hb4.mono hB3)).trans (hb5.mono hB4)).trans (hb6.mono hB5)
          clear hst6 hdy6 hsv6 hst4 hdy4 hr5 hr6 e60 e61 hlk4 hlk3 hlk2 hlk1 hlkq hb6 hb5 hb4 hb2 hb1 hS
          go_wp2_with fail
          refine hmid.mono ?_
          rintro e w7 ⟨⟨a7, c7, rfl⟩, hs7⟩
          clear hmid
          have hb7 : Below w.heap.size w6 w7 := hs7.toBelow hB6 (by intro x hx; simp at hx; omega)
          have hbw7 := hbw6.trans hb7
          go_wp2
          go_ret
          exact ⟨rfl, hbw7⟩

end Go.Proofs.Qxb6608983a
