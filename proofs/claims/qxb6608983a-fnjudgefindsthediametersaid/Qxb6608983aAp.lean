import Derived.Test.Qxb6608983aFf
namespace Go.Proofs.Qxb6608983a
open Go.RowKit
set_option linter.unusedVariables false
set_option linter.unusedSimpArgs false

/-- The table with the first p of the diagonal in. -/
def Diag (n p : Nat) (D : Nat → Int) : Prop := ∀ i j, i < n → j < n → D (i * n + j) = if i = j ∧ i < p then 0 else -1

theorem Diag.step {n p : Nat} {D : Nat → Int} (h : Diag n p D) (hp : p < n) : Diag n (p + 1) (upd D (p * n + p) 0) := by
  intro i j hi hj
  by_cases e : i = p ∧ j = p
  · obtain ⟨rfl, rfl⟩ := e
    rw [upd_same]; simp
  · rw [upd_ne _ _ _ _ (fun he => e (flat_inj hj hp he)), h i j hi hj]
    by_cases e2 : i = j ∧ i < p
    · simp [e2.1, show j < p by omega, show j < p + 1 by omega]
    · have e3 : ¬ (i = j ∧ i < p + 1) := by omega
      simp [e2, e3]

theorem Diag.links {L : Lk} {D : Nat → Int} (h : Diag L.n L.n D) : FW0 L 0 D := by
  refine ⟨?_, ?_, ?_, fun l hl => by omega⟩
  · intro i j hi hj
    rw [h i j hi hj]; split <;> omega
  · intro i hi
    rw [h i i hi hi]; simp [hi]
  · intro i j hi hj h0
    rw [h i j hi hj] at h0
    by_cases e : i = j ∧ i < L.n
    · exact .inl e.1
    · simp [e] at h0

theorem mul_cast {a n I : Nat} (h : I = a * n) : (a : Int) * (n : Int) = (I : Int) := by rw [h, Int.natCast_mul]

set_option maxHeartbeats 2000000 in
set_option maxRecDepth 8000 in
theorem allPairs_any (L : Lk) (B : Nat) (w : World) (aa ab af ac : Option Addr) (ca cb cf cc : Nat) (δ : Nat → Nat → Int) (h : LkAt L B w aa ab af ac) (hB : B ≤ w.heap.size) (hn : L.n ≤ 256) (hδ : ∀ i, i < L.n → IsDist L.E L.n i (δ i)) :
    Calls Try.prog 27 #[.int .i64 (L.n : Nat), .slice aa L.m ca, .slice ab L.m cb, .slice af L.n cf, .slice ac L.m cc] w fun e w' =>
      e = .returned (.slice (some ⟨w.heap.size, 0, none⟩) (L.n * L.n) (L.n * L.n)) ∧ Below w.heap.size w w' ∧ ∃ D : Nat → Int, w'.rowIs w.heap.size 3 (L.n * L.n) (fun x => .int .i64 (D x)) ∧ ∀ i j, i < L.n → j < L.n → D (i * L.n + j) = δ i j := by
  have hm := h.mle
  have hMle : L.n * L.n ≤ 65536 := Nat.mul_le_mul hn hn
  have hlt2 : ∀ i j, i < L.n → j < L.n → i * L.n + j < L.n * L.n := fun i j hi hj => flat_lt hi hj
  have hEl := L.E_lt h.fits
  obtain ⟨M, hM⟩ : ∃ M, M = L.n * L.n := ⟨_, rfl⟩
  have hMi := mul_cast hM
  rw [← hM] at hMle hlt2 ⊢
  clear hM
  have hmk := run_make_row' (P := Try.prog) 22 3 (.int .i64 0) 8 Try.underlying22 Try.info3 rfl .i64 .i64 M (by omega) (by omega)
  go_enter Try.func27, Try.ntmps27
  go_wp2
  go_loopg [12] M (fun gg iv wr => ∃ j : Nat, j + gg = M ∧ iv = .int .i64 j ∧ Below w.heap.size w wr ∧ wr.rowIs w.heap.size 3 M (fun i => if i < j then .int .i64 (-1) else .int .i64 0))
  case atStart =>
    refine ⟨0, by omega, rfl, (Below.refl _ _).alloc (Nat.le_refl _) _, ?_⟩
    simp only [Nat.not_lt_zero, if_false]
    exact World.rowIs_made w (.int .i64 0) M 3
  case round =>
    obtain ⟨j, hj, rfl, hb, hr⟩ := hrel
    clear hmk
    by_cases hlt : j < M
    · have hfr := hr.frozen j
      have hce := hr.cell hlt
      have hlt' : (j : Int) < (M : Int) := by omega
      go_wp2
      go_roundg (gk - 1)
      case measure => omega
      case rel => exact ⟨j + 1, by omega, by go_num, hb.setCell (Nat.le_refl _) _, row_step (F := fun _ => .int .i64 (-1)) hr rfl⟩
    · have hr0 := hr.congr (g := fun i => .int .i64 ((fun _ => -1 : Nat → Int) i)) (by intro i hi; simp [show i < j by omega])
      have hD0 : Diag L.n 0 (fun _ => -1) := by intro i j _ _; simp
      clear hr
      go_wp2
      go_loopg [13] L.n (fun gg iv wr => ∃ (p : Nat) (D : Nat → Int), p + gg = L.n ∧ iv = .int .i64 p ∧ Diag L.n p D ∧ Below w.heap.size w wr ∧ wr.rowIs w.heap.size 3 M (fun i => .int .i64 (D i)))
      case atStart => exact ⟨0, _, by omega, rfl, hD0, hb, hr0⟩
      case round =>
        clear hb hr0 hD0
        rename World => wr
        obtain ⟨p, D, hp, rfl, hD, hb, hr⟩ := hrel
        by_cases hpn : p < L.n
        · have hD2 := hD.step hpn
          have hix := hlt2 p p hpn hpn
          obtain ⟨I, hI⟩ : ∃ I, I = p * L.n := ⟨_, rfl⟩
          have hIi := mul_cast hI
          rw [← hI] at hD2 hix
          have fr := hr.frozen (I + p)
          have ce := hr.cell hix
          have HD2 := (show Hid _ from hD2)
          have hix' : (I : Int) + (p : Int) < (M : Int) := by omega
          clear hI hD hD2
          go_wp2
          go_roundg (L.n - (p + 1))
          case measure => omega
          case rel => exact ⟨p + 1, _, by omega, by go_num, HD2.out, hb.setCell (Nat.le_refl _) _, row_put hr _ _⟩
        · have hF0 : FW0 L 0 D := Diag.links (by rw [show L.n = p by omega] at hD ⊢; exact hD)
          clear hD
          go_wp2
          go_loopg [14] L.m (fun gg iv wr => ∃ (l : Nat) (D : Nat → Int), l + gg = L.m ∧ iv = .int .i64 l ∧ FW0 L l D ∧ Below w.heap.size w wr ∧ wr.rowIs w.heap.size 3 M (fun i => .int .i64 (D i)))
          case atStart => exact ⟨0, D, by omega, rfl, hF0, hb, hr⟩
          case round =>
            clear hb hr hF0
            rename World => wy
            obtain ⟨l, D, hl, rfl, hF, hb, hr⟩ := hrel
            by_cases hlm : l < L.m
            · have hlk := h.below (hb.mono hB)
              obtain ⟨u, hu⟩ : ∃ u, u = L.us l := ⟨_, rfl⟩
              have hus := usable_any L B wy aa ab af ac ca cb cf cc l hlk hlm
              rw [← hu] at hus
              have hlm' : (l : Int) < (L.m : Int) := by omega
              go_wp2_with fail
              refine hus.mono ?_
              rintro e w' ⟨rfl, rfl⟩
              clear hus
              cases u with
              | false =>
                have hF2 := hF.skip hu.symm
                clear hu
                go_wp2
                go_roundg (L.m - (l + 1))
                case measure => omega
                case rel => exact ⟨l + 1, D, by omega, by go_num, hF2, hb, hr⟩
              | true =>
                have hF2 := hF.put h.fits hlm hu.symm
                obtain ⟨hfa, hga, _⟩ := h.fits l hlm
                have i1 := hlt2 _ _ hfa hga
                have i2 := hlt2 _ _ hga hfa
                obtain ⟨b1, o1, rfl, hb1, c1⟩ := hlk.A.nat hlm
                obtain ⟨b2, o2, rfl, hb2, c2⟩ := hlk.B'.nat hlm
                obtain ⟨x, hx⟩ : ∃ x, x = L.f l := ⟨_, rfl⟩
                obtain ⟨y, hy⟩ : ∃ y, y = L.g l := ⟨_, rfl⟩
                rw [← hx, ← hy] at hF2 i1 i2
                rw [← hx] at c1 hfa
                rw [← hy] at c2 hga
                obtain ⟨I, hI⟩ : ∃ I, I = x * L.n := ⟨_, rfl⟩
                obtain ⟨J, hJ⟩ : ∃ J, J = y * L.n := ⟨_, rfl⟩
                have hIi := mul_cast hI
                have hJi := mul_cast hJ
                rw [← hI, ← hJ] at hF2
                rw [← hI] at i1
                rw [← hJ] at i2
                have HF2 := (show Hid _ from hF2)
                have q1 : ¬ b1 = w.heap.size := by omega
                have q2 : ¬ b2 = w.heap.size := by omega
                have fr1 := hr.frozen (I + y)
                have ce1 := hr.cell i1
                have hr2 := row_put hr (I + y) 1
                have ce2 := hr2.cell i2
                have fr2 := hr.frozen (J + x)
                have ce2' := hr.cell i2
                have i1' : (I : Int) + (y : Int) < (M : Int) := by omega
                have i2' : (J : Int) + (x : Int) < (M : Int) := by omega
                clear hI hJ hx hy hF2 hu hF hb1 hb2
                go_wp2
                go_region
                all_goals
                  go_wp2
                  go_region
                  all_goals
                    go_wp2
                    go_roundg (L.m - (l + 1))
                    case measure => omega
                    case rel => exact ⟨l + 1, _, by omega, by go_num, HF2.out, below_drawn (((hb.setCell (Nat.le_refl _) _).setCell (Nat.le_refl _) _)) 2, row_put hr2 _ _⟩
            · have el : l = L.m := by omega
              have hF' : FW0 L L.m D := by rw [← el]; exact hF
              have hFW : FW L.E L.n δ 0 0 0 D := FW0.begin hF' h.fits hδ
              clear hF' el
              clear hF
              go_wp2
              go_loopg [15] L.n (fun gg iv wr => ∃ (K : Nat) (D : Nat → Int), K + gg = L.n ∧ iv = .int .i64 K ∧ FW L.E L.n δ K 0 0 D ∧ Below w.heap.size w wr ∧ wr.rowIs w.heap.size 3 M (fun i => .int .i64 (D i)))
              case atStart => exact ⟨0, D, by omega, rfl, hFW, hb, hr⟩
              case round =>
                clear hb hr hFW
                rename World => wk
                obtain ⟨K, D, hK, rfl, hFW, hb, hr⟩ := hrel
                by_cases hKn : K < L.n
                · have hKn' : (K : Int) < (L.n : Int) := by omega
                  go_wp2
                  go_loopg [16] L.n (fun gg iv wr => ∃ (i : Nat) (D : Nat → Int), i + gg = L.n ∧ iv = .int .i64 i ∧ FW L.E L.n δ K i 0 D ∧ Below w.heap.size w wr ∧ wr.rowIs w.heap.size 3 M (fun i => .int .i64 (D i)))
                  case atStart => exact ⟨0, D, by omega, rfl, hFW, hb, hr⟩
                  case round =>
                    clear hb hr hFW
                    rename World => wi
                    obtain ⟨i, D, hi, rfl, hFW, hb, hr⟩ := hrel
                    by_cases hin : i < L.n
                    · have hin' : (i : Int) < (L.n : Int) := by omega
                      have ix := hlt2 i K hin hKn
                      have hsk := hFW.skipRow hKn hin
                      obtain ⟨I, hI⟩ : ∃ I, I = i * L.n := ⟨_, rfl⟩
                      have hIi := mul_cast hI
                      have HI := (show Hid _ from hI)
                      rw [← hI] at ix hsk
                      have ce := hr.cell ix
                      have ix' : (I : Int) + (K : Int) < (M : Int) := by omega
                      obtain ⟨x, hx⟩ : ∃ x, x = D (I + K) := ⟨_, rfl⟩
                      have HX := (show Hid _ from hx)
                      rw [← hx] at ce hsk
                      clear hI hx
                      by_cases hx0 : x < 0
                      · have hF2 := hsk hx0
                        clear hsk
                        go_wp2
                        go_roundg (L.n - (i + 1))
                        case measure => omega
                        case rel => exact ⟨i + 1, D, by omega, by go_num, hF2, hb, hr⟩
                      · clear hsk
                        go_wp2
                        go_loopg [17] L.n (fun gg iv wr => ∃ (j : Nat) (D : Nat → Int), j + gg = L.n ∧ iv = .int .i64 j ∧ FW L.E L.n δ K i j D ∧ 0 ≤ D (I + K) ∧ Below w.heap.size w wr ∧ wr.rowIs w.heap.size 3 M (fun i => .int .i64 (D i)))
                        case atStart => exact ⟨0, D, by omega, rfl, hFW, by rw [← HX.out]; omega, hb, hr⟩
                        case round =>
                          clear hb hr hFW ce hx0
                          rename World => wj
                          obtain ⟨j, D, hj, rfl, hFW, hx0, hb, hr⟩ := hrel
                          by_cases hjn : j < L.n
                          · have jx := hlt2 K j hKn hjn
                            have kx := hlt2 i j hin hjn
                            have hx0' : 0 ≤ D (i * L.n + K) := by rw [← HI.out]; exact hx0
                            have hbx := (hFW.boundTo hEl hKn hin hx0').1
                            have hby := fun h0 => (hFW.boundOf hEl hKn hjn h0).1
                            have hsk := hFW.skip hKn hin hjn
                            have hrl := hFW.relax hEl hδ hKn hin hjn hx0'
                            have hzn := hFW.neg i j hin hjn
                            have hkeep : ∀ v, 0 ≤ v → 0 ≤ upd D (i * L.n + j) v (i * L.n + K) := by
                              intro v hv
                              by_cases e : i * L.n + K = i * L.n + j
                              · rw [e, upd_same]; exact hv
                              · rw [upd_ne _ _ _ _ e]; exact hx0'
                            clear hx0'
                            obtain ⟨J, hJ⟩ : ∃ J, J = K * L.n := ⟨_, rfl⟩
                            have hJi := mul_cast hJ
                            rw [← HI.out] at kx hbx hsk hrl hkeep hzn
                            rw [← hJ] at jx hby hsk hrl
                            have cx := hr.cell ix
                            have cy := hr.cell jx
                            have cz := hr.cell kx
                            have fz := hr.frozen (I + j)
                            have jx' : (J : Int) + (j : Int) < (M : Int) := by omega
                            have kx' : (I : Int) + (j : Int) < (M : Int) := by omega
                            have hjn' : (j : Int) < (L.n : Int) := by omega
                            obtain ⟨x, hx⟩ : ∃ x, x = D (I + K) := ⟨_, rfl⟩
                            obtain ⟨y, hy⟩ : ∃ y, y = D (J + j) := ⟨_, rfl⟩
                            obtain ⟨z, hz⟩ : ∃ z, z = D (I + j) := ⟨_, rfl⟩
                            have hx1 := hx0
                            rw [← hx] at cx hx1 hbx
                            rw [← hx, ← hy, ← hz] at hsk hrl
                            rw [← hy] at cy hby
                            rw [← hz] at cz hzn
                            clear hJ hx hy hz hFW
                            by_cases hy0 : y < 0
                            · have hF2 := hsk (.inl hy0)
                              clear hsk hrl hby hkeep
                              go_wp2
                              go_roundg (L.n - (j + 1))
                              case measure => omega
                              case rel => exact ⟨j + 1, D, by omega, by go_num, hF2, hx0, hb, hr⟩
                            · have hby1 := hby (by omega)
                              have hd0 : decide (y < 0) = false := decide_eq_false hy0
                              clear hby
                              go_wp2
                              go_quiet (fail)
                              by_cases hz0 : z < 0
                              · have HF2 := (show Hid _ from hrl (by omega) (.inl hz0))
                                have HK := (show Hid _ from hkeep (x + y) (by omega))
                                have hdz : decide (z < 0) = true := decide_eq_true hz0
                                clear hsk hrl hkeep
                                go_wp2
                                go_roundg (L.n - (j + 1))
                                case measure => omega
                                case rel => exact ⟨j + 1, _, by omega, by go_num, HF2.out, HK.out, (below_drawn hb _).setCell (Nat.le_refl _) _, row_put (w := wj.drewN _) hr _ _⟩
                              · have hdz : decide (z < 0) = false := decide_eq_false hz0
                                by_cases hc : x + y < z
                                · have HF2 := (show Hid _ from hrl (by omega) (.inr hc))
                                  have HK := (show Hid _ from hkeep (x + y) (by omega))
                                  have hdc : decide (x + y < z) = true := decide_eq_true hc
                                  clear hsk hrl hkeep
                                  go_wp2
                                  go_roundg (L.n - (j + 1))
                                  case measure => omega
                                  case rel => exact ⟨j + 1, _, by omega, by go_num, HF2.out, HK.out, (below_drawn hb _).setCell (Nat.le_refl _) _, row_put (w := wj.drewN _) hr _ _⟩
                                · have hF2 := hsk (.inr ⟨by omega, by omega⟩)
                                  have hdc : decide (x + y < z) = false := decide_eq_false hc
                                  clear hsk hrl hkeep
                                  go_wp2
                                  go_roundg (L.n - (j + 1))
                                  case measure => omega
                                  case rel => exact ⟨j + 1, D, by omega, by go_num, hF2, hx0, below_drawn hb _, hr⟩
                          · have ej : j = L.n := by omega
                            have hF1 : FW L.E L.n δ K i L.n D := by rw [ej] at hFW; exact hFW
                            have hF2 := hF1.nextRow
                            clear hFW hF1 ej
                            go_wp2
                            go_roundg (L.n - (i + 1))
                            case measure => omega
                            case rel => exact ⟨i + 1, D, by omega, by go_num, hF2, hb, hr⟩
                    · have ei : i = L.n := by omega
                      have hF1 : FW L.E L.n δ K L.n 0 D := by rw [ei] at hFW; exact hFW
                      have hF2 := hF1.nextRound
                      clear hFW hF1 ei
                      go_wp2
                      go_roundg (L.n - (K + 1))
                      case measure => omega
                      case rel => exact ⟨K + 1, D, by omega, by go_num, hF2, hb, hr⟩
                · have eK : K = L.n := by omega
                  have hF1 : FW L.E L.n δ L.n 0 0 D := by rw [eK] at hFW; exact hFW
                  have hfin := hF1.finish hEl hδ
                  clear eK hF1
                  go_wp2
                  go_ret
                  exact ⟨rfl, hb, D, hr, hfin⟩

end Go.Proofs.Qxb6608983a
