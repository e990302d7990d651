import Derived.Test.Qxb6608983aTree4
namespace Go.Proofs.Qxb6608983a
open Go.RowKit
set_option linter.unusedVariables false
set_option linter.unusedSimpArgs false

theorem cnt_succ (n : Nat) (p : Nat → Bool) : cnt (n + 1) p = cnt n p + if p n then 1 else 0 := rfl

set_option maxHeartbeats 1000000 in
set_option maxRecDepth 8000 in
theorem treeAtZero_any (L : Lk) (B : Nat) (w : World) (aa ab af ac : Option Addr) (ca cb cf cc : Nat) (δ : Nat → Int) (h : LkAt L B w aa ab af ac) (hB : B ≤ w.heap.size) (hδ : 0 < L.n → IsDist L.E L.n 0 δ) :
    Calls Try.prog 19 #[.slice aa L.m ca, .slice ab L.m cb, .slice af L.n cf, .slice ac L.m cc] w fun e w' => ∃ b, e = .returned (.bool b) ∧ (b = true → 0 < L.n ∧ L.F 0 = false ∧ TreeAt L δ) ∧ Below w.heap.size w w' := by
  have hn := h.nle
  have hm := h.mle
  by_cases hn0 : 0 < L.n
  rotate_left
  · have g1 : ((L.n : Int) == 0) = true := by simp; omega
    go_enter Try.func19, Try.ntmps19
    go_wp2
    go_ret
    exact ⟨false, rfl, by simp, Below.refl _ _⟩
  have g1 : ((L.n : Int) == 0) = false := by simp; omega
  obtain ⟨bf, of, rfl, _, cf0⟩ := h.Fd.bool hn0
  rw [Nat.add_zero] at cf0
  have hn0' : (0 : Int) < (L.n : Int) := by omega
  by_cases hF0 : L.F 0 = true
  · rw [hF0] at cf0
    go_enter Try.func19, Try.ntmps19
    go_wp2
    go_ret
    exact ⟨false, rfl, by simp, Below.refl _ _⟩
  have hF0' : L.F 0 = false := by simpa using hF0
  rw [hF0'] at cf0
  have hd := hδ hn0
  have hzd := zzDist_any L B w _ _ _ _ ca cb cf cc 0 δ h hB hd
  rw [show (((0 : Nat)) : Int) = 0 from rfl] at hzd
  clear hF0
  go_enter Try.func19, Try.ntmps19
  go_wp2_with fail
  refine hzd.mono ?_
  rintro e w1 ⟨rfl, hb1, hr1⟩
  clear hzd cf0
  have h1 := h.below (hb1.mono hB)
  obtain ⟨bd, hbd⟩ : ∃ b, b = w.heap.size := ⟨_, rfl⟩
  rw [← hbd]
  rw [← hbd] at hr1 hb1 hB
  have HBD : Hid (bd = w.heap.size) := hbd
  clear hbd
  go_wp2
  go_loopg [11, 12] L.n (fun g0 sv iv wr => ∃ j : Nat, j + g0 = L.n ∧ iv = .int .i64 j ∧ sv = .int .i64 (cnt j (fun v => decide (0 ≤ δ v)) : Nat) ∧ w1 = wr)
  case atStart => exact ⟨0, by omega, rfl, rfl, rfl⟩
  case round =>
    obtain ⟨j, hj, rfl, rfl, rfl⟩ := hrel
    have hcl := cnt_le j (fun v => decide (0 ≤ δ v))
    by_cases hjn : j < L.n
    · have cd := hr1.cell hjn
      have hcs := cnt_succ j (fun v => decide (0 ≤ δ v))
      obtain ⟨c0, hc0⟩ : ∃ c, c = cnt j (fun v => decide (0 ≤ δ v)) := ⟨_, rfl⟩
      rw [← hc0] at hcl hcs
      rw [← hc0]
      obtain ⟨x, hx⟩ : ∃ x, x = δ j := ⟨_, rfl⟩
      rw [← hx] at cd hcs
      have HC := (show Hid _ from hcs)
      clear hcs hc0 hx
      by_cases hx0 : 0 ≤ x
      · have e1 : decide (0 ≤ x) = true := decide_eq_true hx0
        go_wp2
        go_roundg (gk - 1)
        case measure => omega
        case rel => exact ⟨j + 1, by omega, by go_num, by rw [HC.out, e1]; go_num, rfl⟩
      · have e1 : decide (0 ≤ x) = false := decide_eq_false hx0
        go_wp2
        go_roundg (gk - 1)
        case measure => omega
        case rel => exact ⟨j + 1, by omega, by go_num, by rw [HC.out, e1]; go_num, rfl⟩
    · obtain rfl : j = L.n := by omega
      obtain ⟨sz, hsz⟩ : ∃ c, c = cnt L.n (fun v => decide (0 ≤ δ v)) := ⟨_, rfl⟩
      rw [← hsz] at hcl
      rw [← hsz]
      have HSZ : Hid (sz = cnt L.n (fun v => decide (0 ≤ δ v))) := hsz
      clear hsz
      go_wp2
      go_loopg [13, 14] L.m (fun g0 ev iv wr => ∃ l : Nat, l + g0 = L.m ∧ iv = .int .i64 l ∧ ev = .int .i64 (cnt l (fun l => L.us l && decide (0 ≤ δ (L.f l))) : Nat) ∧ w1 = wr)
      case atStart => exact ⟨0, by omega, rfl, rfl, rfl⟩
      case round =>
        obtain ⟨l, hl, rfl, rfl, rfl⟩ := hrel
        have hcl2 := cnt_le l (fun l => L.us l && decide (0 ≤ δ (L.f l)))
        by_cases hlm : l < L.m
        · have hcs := cnt_succ l (fun l => L.us l && decide (0 ≤ δ (L.f l)))
          obtain ⟨c0, hc0⟩ : ∃ c, c = cnt l (fun l => L.us l && decide (0 ≤ δ (L.f l))) := ⟨_, rfl⟩
          rw [← hc0] at hcl2 hcs
          rw [← hc0]
          obtain ⟨hfa, hga, hfg⟩ := h.fits l hlm
          have hus := usable_any L B w1 _ _ _ _ ca cb cf cc l h1 hlm
          obtain ⟨u, hu⟩ : ∃ u, u = L.us l := ⟨_, rfl⟩
          rw [← hu] at hus hcs
          obtain ⟨b1, o1, rfl, _, c1⟩ := h1.A.nat hlm
          have cd := hr1.cell hfa
          obtain ⟨x, hx⟩ : ∃ x, x = δ (L.f l) := ⟨_, rfl⟩
          rw [← hx] at cd hcs
          have hlm' : (l : Int) < (L.m : Int) := by omega
          have hfa' : (L.f l : Int) < (L.n : Int) := by omega
          have HC := (show Hid _ from hcs)
          clear hcs hc0 hx hu
          go_wp2_with fail
          refine hus.mono ?_
          rintro e w' ⟨rfl, rfl⟩
          clear hus
          cases u with
          | false =>
            go_wp2
            go_roundg (gk - 1)
            case measure => omega
            case rel => exact ⟨l + 1, by omega, by go_num, by rw [HC.out]; go_num, rfl⟩
          | true =>
            by_cases hx0 : 0 ≤ x
            · have e1 : decide (0 ≤ x) = true := decide_eq_true hx0
              go_wp2
              go_roundg (gk - 1)
              case measure => omega
              case rel => exact ⟨l + 1, by omega, by go_num, by rw [HC.out, e1]; go_num, rfl⟩
            · have e1 : decide (0 ≤ x) = false := decide_eq_false hx0
              go_wp2
              go_roundg (gk - 1)
              case measure => omega
              case rel => exact ⟨l + 1, by omega, by go_num, by rw [HC.out, e1]; go_num, rfl⟩
        · obtain rfl : l = L.m := by omega
          obtain ⟨c0, hc0⟩ : ∃ c, c = cnt L.m (fun l => L.us l && decide (0 ≤ δ (L.f l))) := ⟨_, rfl⟩
          rw [← hc0] at hcl2
          rw [← hc0]
          have HC : Hid (c0 = cnt L.m (fun l => L.us l && decide (0 ≤ δ (L.f l)))) := hc0
          clear hc0
          go_wp2
          go_ret
          refine ⟨_, rfl, ?_, by rw [← HBD.out]; exact hb1⟩
          intro he
          refine ⟨hn0, hF0', h.fits, hd, ?_⟩
          rw [← HC.out, ← HSZ.out]
          have hsz1 : 0 < sz := by
            rw [HSZ.out]
            exact le_cnt (fun _ => 0) (fun i _ => ⟨hn0, by simp [hd.zero]⟩) (fun i j hi hj _ => by omega)
          simp at he
          omega

end Go.Proofs.Qxb6608983a
