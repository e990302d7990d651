import Derived.Test.Qxb6608983aJs
import Derived.Test.Qxb6608983aJw
import Derived.Lib.SliceRun
namespace Go.Proofs.Qxb6608983a
open Go.RowKit
set_option linter.unusedVariables false
set_option linter.unusedSimpArgs false

theorem rowIs_fill {z : Value} : ∀ (m o : Nat) {w : World} {b : Nat} {t : TypeId} {n : Nat} {f : Nat → Value}, w.rowIs b t n f → (w.setCells b o (List.replicate m z)).rowIs b t n (fun i => if o ≤ i ∧ i < o + m then z else f i) ∧ Same [b] w (w.setCells b o (List.replicate m z)) := by
  intro m
  induction m with
  | zero =>
    intro o w b t n f h
    exact ⟨h.congr (fun i _ => by simp [show ¬ (o ≤ i ∧ i < o) by omega]), Same.refl _ _⟩
  | succ m ih =>
    intro o w b t n f h
    obtain ⟨h1, h2⟩ := ih (o + 1) (h.set o z)
    refine ⟨h1.congr ?_, ((Same.refl _ _).setCell (.inl (by simp)) _).trans h2⟩
    intro i _
    by_cases e : i = o
    · subst e; simp [show ¬ (i + 1 ≤ i ∧ i < i + 1 + m) by omega]
    · by_cases e2 : o + 1 ≤ i ∧ i < o + 1 + m
      · simp [e2, show o ≤ i ∧ i < o + (m + 1) by omega]
      · simp [e2, e, show ¬ (o ≤ i ∧ i < o + (m + 1)) by omega]

theorem zero3 : ∀ w, (zeroValue 3).run Try.prog w = .ok (.int .i64 0) w := by
  intro w
  kernel_rfl

/-- A row of integers with one put anew. -/
theorem row_put {w : World} {b n : Nat} {g : Nat → Int} (h : w.rowIs b 3 n (fun i => .int .i64 (g i))) (i : Nat) (x : Int) : (w.setCell ⟨b, i, none⟩ (.int .i64 x)).rowIs b 3 n (fun j => .int .i64 (upd g i x j)) := by
  refine (h.set i _).congr ?_
  intro j _
  by_cases e : j = i
  · subst e; simp [upd]
  · simp [upd, e]
theorem row_putN {w : World} {b n : Nat} {g : Nat → Nat} (h : w.rowIs b 3 n (fun i => .int .i64 (g i : Nat))) (i x : Nat) : (w.setCell ⟨b, i, none⟩ (.int .i64 (x : Nat))).rowIs b 3 n (fun j => .int .i64 (upd g i x j : Nat)) := by
  refine (h.set i _).congr ?_
  intro j _
  by_cases e : j = i
  · subst e; simp [upd]
  · simp [upd, e]

set_option maxHeartbeats 1000000 in
set_option maxRecDepth 8000 in
theorem farthest_any (ps bF bO bd n e : Nat) (d : Nat → Int) (g0 : Nat → Int) (G0 : Nat → Nat) (w : World) (hn : n ≤ 4096) (he : e < n) (hdb : ∀ v, v < n → -1 ≤ d v ∧ d v ≤ e)
    (h9 : w.cell? ⟨ps, 9, none⟩ = some (.slice (some ⟨bF, 0, none⟩) n n)) (h10 : w.cell? ⟨ps, 10, none⟩ = some (.slice (some ⟨bO, 0, none⟩) (n + 2) (n + 2)))
    (hO : w.rowIs bO 3 (n + 2) (fun i => .int .i64 (g0 i))) (hF : w.rowIs bF 3 n (fun i => .int .i64 (G0 i : Nat))) (hG0 : ∀ i, i < n → G0 i < n) (hD : w.rowIs bd 3 n (fun i => .int .i64 (d i)))
    (hps : ps < w.heap.size) (n1 : ps ≠ bF) (n2 : ps ≠ bO) (n3 : bF ≠ bO) (n4 : bd ≠ bF) (n5 : bd ≠ bO) :
    Calls Try.prog 51 #[.pointer (some ⟨ps, 0, none⟩), .slice (some ⟨bd, 0, none⟩) n n, .int .i64 (e : Nat)] w fun r w' => ∃ G, r = .returned (.slice (some ⟨bF, 0, none⟩) (bel n e d (e + 1)) n) ∧ Same [bF, bO] w w' ∧ Laid n e d n G ∧ w'.rowIs bF 3 n (fun i => .int .i64 (G i : Nat)) := by
  have hcl := fun ty => Lib.run_clear_slice w 22 3 ty (.int .i64 0) Try.underlying22 zero3 rfl rfl bO 0 (e + 2) (n + 2) (by omega) (fun j hj => by rw [hO.cell (by omega)]; rfl) (fun j hj => hO.frozen _)
  obtain ⟨hO1, hS1⟩ := rowIs_fill (z := .int .i64 0) (e + 2) 0 hO
  obtain ⟨w1, hw1⟩ : ∃ w1, w1 = w.setCells bO 0 (List.replicate (e + 2) (.int .i64 0)) := ⟨_, rfl⟩
  rw [← hw1] at hO1 hS1
  simp only [← hw1] at hcl
  have hA0 : OrdA e d 0 (fun i => if i < e + 2 then 0 else g0 i) := by
    intro k hk
    simp [hk, cntA_zero]
  have hO1' : w1.rowIs bO 3 (n + 2) (fun i => .int .i64 (if i < e + 2 then 0 else g0 i)) := hO1.congr (fun i _ => by by_cases h : i < e + 2 <;> simp [h])
  have hsx : Same [bF, bO] w w1 := hS1.mono (by intro x hx; simp at hx; subst hx; exact .inl (by simp))
  clear hw1 hO1 hO
  have he1 : ((e : Int) + 2) ≤ ((n + 2 : Nat) : Int) := by omega
  go_enter Try.func51, Try.ntmps51
  go_wp2
  clear hcl he1
  go_loopg [21] n (fun gg iv wr => ∃ (j : Nat) (g : Nat → Int), j + gg = n ∧ iv = .int .i64 j ∧ OrdA e d j g ∧ Same [bF, bO] w wr ∧ wr.rowIs bO 3 (n + 2) (fun i => .int .i64 (g i)) ∧ wr.rowIs bF 3 n (fun i => .int .i64 (G0 i : Nat)))
  case atStart => exact ⟨0, _, by omega, rfl, hA0, hsx, hO1', hS1.rowIs hF (by simpa using n3)⟩
  case round =>
    clear hA0 hsx hO1' hF
    obtain ⟨j, g, hj, rfl, hA, hsx, hO, hF⟩ := hrel
    have hDr := hsx.rowIs hD (by simp; exact ⟨n4, n5⟩)
    by_cases hjn : j < n
    · have cd := hDr.cell hjn
      have hb := hdb j hjn
      have hjn' : (j : Int) < (n : Int) := by omega
      by_cases h0 : 0 ≤ d j
      · have hk := key_eq h0 hb.2
        have hkl := key_le (n := n) (e := e) h0
        have hA2 := hA.hit h0
        obtain ⟨K, hK⟩ : ∃ K, K = key e d j := ⟨_, rfl⟩
        rw [← hK] at hk hkl hA2
        have hgv := hA (K + 1) (by omega)
        have hle := cntA_le e d j (K + 1)
        have cO := hO.cell (i := K + 1) (by omega)
        have fO := hO.frozen (K + 1)
        have c10 := gcell hsx hps (by simp; exact ⟨n1, n2⟩) h10
        obtain ⟨y, hy⟩ : ∃ y, y = g (K + 1) := ⟨_, rfl⟩
        rw [← hy] at cO hA2 hgv
        obtain ⟨x, hx⟩ : ∃ x, x = d j := ⟨_, rfl⟩
        rw [← hx] at cd h0 hk hb
        have hy0 : 0 ≤ y := by omega
        have hy1 : y ≤ 10000 := by omega
        have hidx : ((e : Int) - x + 1).toNat = K + 1 := by omega
        have hi1 : (0 : Int) ≤ (e : Int) - x + 1 := by omega
        have hi2 : (e : Int) - x + 1 < ((n + 2 : Nat) : Int) := by omega
        have HA2 := (show Hid _ from hA2)
        clear hK hgv hle hx hA2 hy hk
        go_wp2
        go_roundg (gk - 1)
        case measure => omega
        case rel => exact ⟨j + 1, _, by omega, by go_num, HA2.out, hsx.setCell (.inl (by simp)) _, row_put hO _ _, hF.setOther (by simpa using n3) _⟩
      · have hA2 := hA.miss (by omega)
        obtain ⟨x, hx⟩ : ∃ x, x = d j := ⟨_, rfl⟩
        rw [← hx] at cd h0
        clear hx
        go_wp2
        go_roundg (gk - 1)
        case measure => omega
        case rel => exact ⟨j + 1, g, by omega, by go_num, hA2, hsx, hO, hF⟩
    · obtain rfl : n = j := by omega
      have hB0 := hA.sum
      clear hA
      go_wp2
      go_loopg [9] (e + 1) (fun gg iv wr => ∃ (x : Nat) (g : Nat → Int), x + gg = e + 1 ∧ iv = .int .i64 ((x + 1 : Nat) : Int) ∧ OrdB n e d (x + 1) g ∧ Same [bF, bO] w wr ∧ wr.rowIs bO 3 (n + 2) (fun i => .int .i64 (g i)) ∧ wr.rowIs bF 3 n (fun i => .int .i64 (G0 i : Nat)))
      case atStart => exact ⟨0, g, by omega, rfl, hB0, hsx, hO, hF⟩
      case round =>
        clear hB0 hsx hO hF hDr
        obtain ⟨x, g, hx, rfl, hB, hsx, hO, hF⟩ := hrel
        rename World => wy
        by_cases hxe : x < e + 1
        · have hB2 := hB.step (by omega)
          have b1 := hB (x + 1) (by omega)
          have b0 := hB x (by omega)
          have l1 := cntA_le e d n (x + 1)
          have l0 := bel_le n e d x
          simp at b1 b0
          have c1 := hO.cell (i := x + 1) (by omega)
          have c0 := hO.cell (i := x) (by omega)
          have fO := hO.frozen (x + 1)
          have c10 := gcell hsx hps (by simp; exact ⟨n1, n2⟩) h10
          obtain ⟨y1, hy1⟩ : ∃ y, y = g (x + 1) := ⟨_, rfl⟩
          obtain ⟨y0, hy0⟩ : ∃ y, y = g x := ⟨_, rfl⟩
          rw [← hy1] at c1 hB2 b1
          rw [← hy0] at c0 hB2 b0
          have q1 : 0 ≤ y1 := by omega
          have q2 : y1 ≤ 10000 := by omega
          have q3 : 0 ≤ y0 := by omega
          have q4 : y0 ≤ 10000 := by omega
          have HB2 := (show Hid _ from hB2)
          have hxe' : ((x + 1 : Nat) : Int) < (e : Int) + 2 := by omega
          clear b1 b0 l1 l0 hy1 hy0 hB2 hB
          go_wp2
          go_region
          all_goals
            go_wp2
            go_roundg (e + 1 - (x + 1))
            case measure => omega
            case rel => exact ⟨x + 1, _, by omega, by go_num, HB2.out, (hsx.setCell (.inl (by simp)) _).drew, World.rowIs.drew (row_put hO _ _), World.rowIs.drew (hF.setOther (by simpa using n3) _)⟩
        · obtain rfl : x = e + 1 := by omega
          have hC0 := hB.done
          have hL0 : Laid n e d 0 G0 := ⟨hG0, fun q hq => by omega⟩
          clear hB
          go_wp2
          go_loopg [65] n (fun gg iv wr => ∃ (j : Nat) (g : Nat → Int) (G : Nat → Nat), j + gg = n ∧ iv = .int .i64 j ∧ OrdC n e d j g ∧ Laid n e d j G ∧ Same [bF, bO] w wr ∧ wr.rowIs bO 3 (n + 2) (fun i => .int .i64 (g i)) ∧ wr.rowIs bF 3 n (fun i => .int .i64 (G i : Nat)))
          case atStart => exact ⟨0, g, G0, by omega, rfl, hC0, hL0, hsx, hO, hF⟩
          case round =>
            clear hC0 hL0 hsx hO hF
            obtain ⟨j, g, G, hj, rfl, hC, hL, hsx, hO, hF⟩ := hrel
            rename World => wz
            have c10 := gcell hsx hps (by simp; exact ⟨n1, n2⟩) h10
            have c9 := gcell hsx hps (by simp; exact ⟨n1, n2⟩) h9
            by_cases hjn : j < n
            · have hDr := hsx.rowIs hD (by simp; exact ⟨n4, n5⟩)
              have cd := hDr.cell hjn
              have hb := hdb j hjn
              have hjn' : (j : Int) < (n : Int) := by omega
              by_cases h0 : 0 ≤ d j
              · have hk := key_eq h0 hb.2
                have hkl := key_le (n := n) (e := e) h0
                have hat := hC.at_ h0
                have hpl := pos_lt_n (e := e) hjn h0
                have hC2 := hC.hit h0
                have hL2 := hL.hit hjn h0
                obtain ⟨K, hK⟩ : ∃ K, K = key e d j := ⟨_, rfl⟩
                rw [← hK] at hk hkl hC2 hat
                obtain ⟨P, hP⟩ : ∃ P, P = pos n e d j := ⟨_, rfl⟩
                rw [← hP] at hat hpl hL2
                have cO := hO.cell (i := K) (by omega)
                have fO := hO.frozen K
                have cF := hF.cell hpl
                have fF := hF.frozen P
                rw [hat] at cO hC2
                obtain ⟨x, hx⟩ : ∃ x, x = d j := ⟨_, rfl⟩
                rw [← hx] at cd h0 hk hb
                have hidx : ((e : Int) - x).toNat = K := by omega
                have hi1 : (0 : Int) ≤ (e : Int) - x := by omega
                have hi2 : (e : Int) - x < ((n + 2 : Nat) : Int) := by omega
                have hpl' : (P : Int) < (n : Int) := by omega
                have HC2 := (show Hid _ from hC2)
                have HL2 := (show Hid _ from hL2)
                have n3' : ¬ bO = bF := fun e => n3 e.symm
                have hO2 := hO.setOther (a := ⟨bF, P, none⟩) (by simpa using n3') (.int .i64 (j : Nat))
                have hF2 := row_putN hF P j
                clear hK hP hat hx hC2 hL2 hk hC hL
                go_wp2
                go_region
                all_goals
                  go_wp2
                  go_roundg (n - (j + 1))
                  case measure => omega
                  case rel => exact ⟨j + 1, _, _, by omega, by go_num, HC2.out, HL2.out, ((hsx.setCell (.inl (by simp)) _).setCell (.inl (by simp)) _).drew, World.rowIs.drew (row_put hO2 _ _), World.rowIs.drew (hF2.setOther (by simpa using n3) _)⟩
              · have hC2 := hC.miss (by omega)
                have hL2 := hL.miss (by omega)
                obtain ⟨x, hx⟩ : ∃ x, x = d j := ⟨_, rfl⟩
                rw [← hx] at cd h0
                clear hx
                go_wp2
                go_roundg (n - (j + 1))
                case measure => omega
                case rel => exact ⟨j + 1, g, G, by omega, by go_num, hC2, hL2, hsx, hO, hF⟩
            · obtain rfl : n = j := by omega
              have ht := hC.total
              have htl := bel_le n e d (e + 1)
              have cO := hO.cell (i := e) (by omega)
              rw [ht] at cO
              obtain ⟨T, hT⟩ : ∃ T, T = bel n e d (e + 1) := ⟨_, rfl⟩
              rw [← hT] at cO htl
              have HT := (show Hid _ from hT)
              clear ht hT hC
              have htl' : (T : Int) ≤ (n : Int) := by omega
              have he' : (e : Int) < ((n + 2 : Nat) : Int) := by omega
              go_wp2
              go_quiet (fail)
              go_wp2
              go_ret
              exact ⟨G, by rw [← HT.out]; rfl, hsx.drawn _, hL, hF⟩

end Go.Proofs.Qxb6608983a
