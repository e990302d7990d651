import Derived.Test.Qxb6608983aBF
namespace Go.Proofs.Qxb6608983a
open Go.RowKit
set_option linter.unusedVariables false
set_option linter.unusedSimpArgs false

/-- The test of a relaxing. -/
def cnd (da db : Int) : Bool := decide (0 ≤ da) && (decide (db < 0) || decide (da + 1 < db))
theorem cnd_iff (da db : Int) : cnd da db = true ↔ 0 ≤ da ∧ (db < 0 ∨ da + 1 < db) := by simp [cnd]

set_option maxHeartbeats 2000000 in
set_option maxRecDepth 8000 in
theorem zzDist_any (L : Lk) (B : Nat) (w : World) (aa ab af ac : Option Addr) (ca cb cf cc : Nat) (s : Nat) (δ : Nat → Int) (h : LkAt L B w aa ab af ac) (hB : B ≤ w.heap.size) (hδ : IsDist L.E L.n s δ) :
    Calls Try.prog 17 #[.int .i64 s, .slice aa L.m ca, .slice ab L.m cb, .slice af L.n cf, .slice ac L.m cc, .int .i64 (-1)] w fun e w' =>
      e = .returned (.slice (some ⟨w.heap.size, 0, none⟩) L.n L.n) ∧ Below w.heap.size w w' ∧ w'.rowIs w.heap.size 3 L.n (fun i => .int .i64 (δ i)) := by
  have hn := h.nle
  have hm := h.mle
  have hsn := hδ.hs
  have hmk := run_make_row' (P := Try.prog) 22 3 (.int .i64 0) 8 Try.underlying22 Try.info3 rfl .i64 .i64 L.n (by omega) (by omega)
  go_enter Try.func17, Try.ntmps17
  go_wp2
  go_loopg [15] L.n (fun k i wr => ∃ j : Nat, j + k = L.n ∧ i = .int .i64 j ∧ Below w.heap.size w wr ∧ wr.rowIs w.heap.size 3 L.n (fun i => if i < j then .int .i64 (-1) else .int .i64 0))
  case atStart =>
    refine ⟨0, by omega, rfl, (Below.refl _ _).alloc (Nat.le_refl _) _, ?_⟩
    simp only [Nat.not_lt_zero, if_false]
    exact World.rowIs_made w (.int .i64 0) L.n 3
  case round =>
    obtain ⟨j, hj, rfl, hb, hr⟩ := hrel
    clear hmk
    by_cases hlt : j < L.n
    · have hfr := hr.frozen j
      have hce := hr.cell hlt
      go_wp2
      go_roundg (gk - 1)
      case measure => omega
      case rel => exact ⟨j + 1, by omega, by go_num, hb.setCell (Nat.le_refl _) _, row_step (F := fun _ => .int .i64 (-1)) hr rfl⟩
    · have hr0 := hr.congr (g := fun i => .int .i64 (-1)) (by intro i hi; simp [show i < j by omega])
      have hfr := hr0.frozen s
      have hce := hr0.cell hsn
      have hsn' : (s : Int) < (L.n : Int) := by omega
      go_wp2
      go_loopg [16, 17] L.n (fun k c i wr => ∃ (r : Nat) (ch : Bool) (d : Nat → Int), r + k = L.n ∧ i = .int .i64 r ∧ c = .bool ch ∧ BFH L δ r d ch ∧ Below w.heap.size w wr ∧ wr.rowIs w.heap.size 3 L.n (fun i => .int .i64 (d i)))
      case atStart =>
        refine ⟨0, true, _, by omega, rfl, rfl, BFH.start hδ, hb.setCell (Nat.le_refl _) _, (hr0.set s _).congr ?_⟩
        intro i hi
        by_cases e : i = s
        · subst e; simp [upd]
        · simp [upd, e]
      case round =>
        clear hb hr hr0 hfr hce
        obtain ⟨r, ch, d, hr, rfl, rfl, hbf, hb, hrow⟩ := hrel
        by_cases hgo : ch = true ∧ r < L.n
        rotate_left
        · have hfin := hbf.finish hδ (by cases ch with
            | false => exact .inl rfl
            | true => exact .inr (by by_cases hh : r < L.n; · exact absurd ⟨rfl, hh⟩ hgo
                                     · omega))
          have hrow2 := hrow.congr (g := fun i => .int .i64 (δ i)) (fun i hi => by rw [hfin i hi])
          cases ch with
          | false =>
            go_wp2
            go_ret
            exact ⟨rfl, hb, hrow2⟩
          | true =>
            have hdd : decide (r < L.n) = false := decide_eq_false (fun hh => hgo ⟨rfl, hh⟩)
            clear hgo
            go_wp2
            go_ret
            exact ⟨rfl, hb, hrow2⟩
        · obtain ⟨rfl, hlt2⟩ := hgo
          have hbf0 := hbf.begin
          clear hbf
          go_wp2
          go_loopg [16, 18] L.m (fun k c i wr => ∃ (l : Nat) (ch : Bool) (d : Nat → Int), l + k = L.m ∧ i = .int .i64 l ∧ c = .bool ch ∧ BF L δ r (2 * l) d ch ∧ Below w.heap.size w wr ∧ wr.rowIs w.heap.size 3 L.n (fun i => .int .i64 (d i)))
          case atStart => exact ⟨0, false, d, by omega, rfl, rfl, hbf0, hb, hrow⟩
          case round =>
            clear hbf0 hb hrow
            rename World => wy
            obtain ⟨l, ch, d, hl, rfl, rfl, hbf, hb, hrow⟩ := hrel
            by_cases hlm : l < L.m
            rotate_left
            · obtain rfl : l = L.m := by omega
              have hnx := hbf.round hδ hm
              go_wp2
              go_roundg (L.n - (r + 1))
              case measure => omega
              case rel => exact ⟨r + 1, ch, d, by omega, by go_num, rfl, hnx, hb, hrow⟩
            · have hlk := h.below (hb.mono hB)
              obtain ⟨u, hu⟩ : ∃ u, u = L.us l := ⟨_, rfl⟩
              have hus := usable_any L B wy aa ab af ac ca cb cf cc l hlk hlm
              rw [← hu] at hus
              go_wp2_with fail
              refine hus.mono ?_
              rintro e w' ⟨rfl, rfl⟩
              clear hus
              cases u with
              | false =>
                have hsk := hbf.skip (by rw [show 2 * l / 2 = l by omega]; exact hu.symm) (by omega)
                clear hu
                go_wp2
                go_roundg (gk - 1)
                case measure => omega
                case rel => exact ⟨l + 1, ch, d, by omega, by go_num, rfl, by rw [show 2 * (l + 1) = 2 * l + 2 by omega]; exact hsk, hb, hrow⟩
              | true =>
                obtain ⟨hfa, hga, hfg⟩ := h.fits l hlm
                obtain ⟨b1, o1, rfl, _, c1⟩ := hlk.A.nat hlm
                obtain ⟨b2, o2, rfl, _, c2⟩ := hlk.B'.nat hlm
                have hlm' : (l : Int) < (L.m : Int) := by omega
                have hfa' : (L.f l : Int) < (L.n : Int) := by omega
                have hga' : (L.g l : Int) < (L.n : Int) := by omega
                have ca1 := hrow.cell hfa
                have cb1 := hrow.cell hga
                have hba := hbf.bnd _ hfa
                have hbb := hbf.bnd _ hga
                have hla := (hbf.low _ hfa).1
                have hlb := (hbf.low _ hga).1
                obtain ⟨da, hda⟩ : ∃ x, x = d (L.f l) := ⟨_, rfl⟩
                obtain ⟨db, hdb⟩ : ∃ x, x = d (L.g l) := ⟨_, rfl⟩
                rw [← hda] at ca1 hba hla
                rw [← hdb] at cb1 hbb hlb
                have HDA : Hid (da = d (L.f l)) := hda
                have HDB : Hid (db = d (L.g l)) := hdb
                have HU : Hid (true = L.us l) := hu
                have hbig : (da : Int) ≤ 100000000 := by omega
                have hbig2 : (db : Int) ≤ 100000000 := by omega
                clear hda hdb hu hba hbb
                go_upto_region 19 with fail
                go_cut [89] (fun t wx => t = .bool (cnd da db) ∧ ∃ q, wx = wy.drewN q)
                case first =>
                  by_cases t1 : 0 ≤ da
                  · have d1 : decide (0 ≤ da) = true := decide_eq_true t1
                    by_cases t2 : db < 0
                    · have d2 : decide (db < 0) = true := decide_eq_true t2
                      have hcn : cnd da db = true := by simp [cnd, t1, t2]
                      go_quiet (fail)
                      go_wp2
                      go_meet
                      case rel => exact ⟨by rw [hcn], _, rfl⟩
                    · have d2 : decide (db < 0) = false := decide_eq_false t2
                      by_cases t3 : da + 1 < db
                      · have d3 : decide (da + 1 < db) = true := decide_eq_true t3
                        have hcn : cnd da db = true := by simp [cnd, t1, t2, t3]
                        go_quiet (fail)
                        go_wp2
                        go_meet
                        case rel => exact ⟨by rw [hcn], _, rfl⟩
                      · have d3 : decide (da + 1 < db) = false := decide_eq_false t3
                        have hcn : cnd da db = false := by simp [cnd, t1, t2, t3]
                        go_quiet (fail)
                        go_wp2
                        go_meet
                        case rel => exact ⟨by rw [hcn], _, rfl⟩
                  · have d1 : decide (0 ≤ da) = false := decide_eq_false t1
                    have hcn : cnd da db = false := by simp [cnd, t1]
                    go_quiet (fail)
                    go_wp2
                    go_meet
                    case rel => exact ⟨by rw [hcn], _, rfl⟩
                case rest =>
                  obtain ⟨rfl, q1, rfl⟩ := hcut
                  have hus2 : L.us (2 * l / 2) = true := by rw [show 2 * l / 2 = l by omega]; exact HU.out.symm
                  have es1 : L.src (2 * l) = L.f l := by simp [Lk.src]
                  have ed1 : L.dst (2 * l) = L.g l := by simp [Lk.dst]
                  go_upto_if 89 with fail
                  go_cut [16] (fun c wx => ∃ (ch1 : Bool) (d1 : Nat → Int), c = .bool ch1 ∧ BF L δ r (2 * l + 1) d1 ch1 ∧ Below w.heap.size w wx ∧ wx.rowIs w.heap.size 3 L.n (fun i => .int .i64 (d1 i)))
                  case first =>
                    obtain ⟨cv, hcv⟩ : ∃ c, c = cnd da db := ⟨_, rfl⟩
                    cases cv with
                    | false =>
                      have hre := hbf.rest h.fits (by omega) (by
                        rw [es1, ed1, ← HDA.out, ← HDB.out, ← cnd_iff, ← hcv]
                        simp)
                      rw [← hcv]
                      clear hcv hus2 es1 ed1
                      go_wp2
                      go_meet
                      case rel => exact ⟨ch, d, rfl, hre, below_drawn hb _, hrow⟩
                    | true =>
                      obtain ⟨q0, q2⟩ := (cnd_iff da db).1 hcv.symm
                      have hre := hbf.relax hδ h.fits (by omega) hus2 (by rw [es1, ← HDA.out]; exact q0) (by rw [es1, ed1, ← HDA.out, ← HDB.out]; exact q2)
                      rw [es1, ed1, ← HDA.out] at hre
                      have hfr2 := hrow.frozen (L.g l)
                      rw [← hcv]
                      clear hcv hus2 es1 ed1 q2
                      go_wp2
                      go_meet
                      case rel =>
                        refine ⟨true, _, rfl, hre, (below_drawn hb _).setCell (Nat.le_refl _) _, ((World.rowIs.set (w := wy.drewN q1) hrow (L.g l) (.int .i64 (da + 1))).congr ?_)⟩
                        intro i hi
                        by_cases e : i = L.g l
                        · subst e; simp [upd]
                        · simp [upd, e]
                  case rest =>
                    rename World => wz
                    obtain ⟨ch1, d1, rfl, hbf1, hb1, hrow1⟩ := hcut
                    clear hbf hb hrow ca1 cb1 c1 c2 hlk hla hlb hbig hbig2 HDA HDB hus2 es1 ed1
                    have ca1 := hrow1.cell hfa
                    have cb1 := hrow1.cell hga
                    have hba := hbf1.bnd _ hfa
                    have hbb := hbf1.bnd _ hga
                    have hla := (hbf1.low _ hfa).1
                    have hlb := (hbf1.low _ hga).1
                    obtain ⟨ea, hda⟩ : ∃ x, x = d1 (L.f l) := ⟨_, rfl⟩
                    obtain ⟨eb, hdb⟩ : ∃ x, x = d1 (L.g l) := ⟨_, rfl⟩
                    rw [← hda] at ca1 hba hla
                    rw [← hdb] at cb1 hbb hlb
                    have HDA : Hid (ea = d1 (L.f l)) := hda
                    have HDB : Hid (eb = d1 (L.g l)) := hdb
                    have hbig : (ea : Int) ≤ 100000000 := by omega
                    have hbig2 : (eb : Int) ≤ 100000000 := by omega
                    clear hda hdb hba hbb
                    go_upto_region 22 with fail
                    go_cut [121] (fun t wx => t = .bool (cnd eb ea) ∧ ∃ q, wx = wz.drewN q)
                    case first =>
                      by_cases t1 : 0 ≤ eb
                      · have e1 : decide (0 ≤ eb) = true := decide_eq_true t1
                        by_cases t2 : ea < 0
                        · have e2 : decide (ea < 0) = true := decide_eq_true t2
                          have hcn : cnd eb ea = true := by simp [cnd, t1, t2]
                          go_quiet (fail)
                          go_wp2
                          go_meet
                          case rel => exact ⟨by rw [hcn], _, rfl⟩
                        · have e2 : decide (ea < 0) = false := decide_eq_false t2
                          by_cases t3 : eb + 1 < ea
                          · have e3 : decide (eb + 1 < ea) = true := decide_eq_true t3
                            have hcn : cnd eb ea = true := by simp [cnd, t1, t2, t3]
                            go_quiet (fail)
                            go_wp2
                            go_meet
                            case rel => exact ⟨by rw [hcn], _, rfl⟩
                          · have e3 : decide (eb + 1 < ea) = false := decide_eq_false t3
                            have hcn : cnd eb ea = false := by simp [cnd, t1, t2, t3]
                            go_quiet (fail)
                            go_wp2
                            go_meet
                            case rel => exact ⟨by rw [hcn], _, rfl⟩
                      · have e1 : decide (0 ≤ eb) = false := decide_eq_false t1
                        have hcn : cnd eb ea = false := by simp [cnd, t1]
                        go_quiet (fail)
                        go_wp2
                        go_meet
                        case rel => exact ⟨by rw [hcn], _, rfl⟩
                    case rest =>
                      obtain ⟨rfl, q2, rfl⟩ := hcut
                      have hus2 : L.us ((2 * l + 1) / 2) = true := by rw [show (2 * l + 1) / 2 = l by omega]; exact HU.out.symm
                      have es1 : L.src (2 * l + 1) = L.g l := by simp [Lk.src, show (2 * l + 1) / 2 = l by omega, show (2 * l + 1) % 2 = 1 by omega]
                      have ed1 : L.dst (2 * l + 1) = L.f l := by simp [Lk.dst, show (2 * l + 1) / 2 = l by omega, show (2 * l + 1) % 2 = 1 by omega]
                      obtain ⟨cv, hcv⟩ : ∃ c, c = cnd eb ea := ⟨_, rfl⟩
                      cases cv with
                      | false =>
                        have hre := hbf1.rest h.fits (by omega) (by
                          rw [es1, ed1, ← HDA.out, ← HDB.out, ← cnd_iff, ← hcv]
                          simp)
                        rw [← hcv]
                        clear hcv hus2 es1 ed1
                        go_wp2
                        go_roundg (gk - 1)
                        case measure => omega
                        case rel => exact ⟨l + 1, ch1, d1, by omega, by go_num, rfl, by rw [show 2 * (l + 1) = 2 * l + 1 + 1 by omega]; exact hre, below_drawn hb1 _, hrow1⟩
                      | true =>
                        obtain ⟨q0, q3⟩ := (cnd_iff eb ea).1 hcv.symm
                        have hre := hbf1.relax hδ h.fits (by omega) hus2 (by rw [es1, ← HDB.out]; exact q0) (by rw [es1, ed1, ← HDA.out, ← HDB.out]; exact q3)
                        rw [es1, ed1, ← HDB.out] at hre
                        have hfr2 := hrow1.frozen (L.f l)
                        rw [← hcv]
                        clear hcv hus2 es1 ed1 q3
                        go_wp2
                        go_roundg (gk - 1)
                        case measure => omega
                        case rel =>
                          refine ⟨l + 1, true, _, by omega, by go_num, rfl, by rw [show 2 * (l + 1) = 2 * l + 1 + 1 by omega]; exact hre, (below_drawn hb1 _).setCell (Nat.le_refl _) _, ((World.rowIs.set (w := wz.drewN q2) hrow1 (L.f l) (.int .i64 (eb + 1))).congr ?_)⟩
                          intro i hi
                          by_cases e : i = L.f l
                          · subst e; simp [upd]
                          · simp [upd, e]

end Go.Proofs.Qxb6608983a
