import Derived.Test.Qxb6613436aZm
import Derived.Deep.QuietTactic
namespace Go.Proofs.Qxb6613436a
open Go.RowKit
set_option linter.unusedVariables false
set_option linter.unusedSimpArgs false

theorem Bytes.drawn {B : Nat} {w : World} {v : Value} (h : Bytes B w v) (q : Nat) : Bytes B (w.drewN q) v := h.below (below_drawn (Below.refl _ _) _)
theorem Bytes.isSl {B : Nat} {w : World} {v : Value} (h : Bytes B w v) : IsSl v := by
  obtain ⟨a, l, c, f, e, _⟩ := h
  exact ⟨a, l, c, e⟩

/-- The count that the law reckons. -/
theorem Seen.count {n : Nat} {st : Int} {c : Nat} (h : Seen n st c) : (st < 1 → ((n : Int) < 1 → c = n) ∧ (1 ≤ n → c = 1)) ∧ (1 ≤ st → ((n : Int) < st → c = n) ∧ (st ≤ n → (c : Int) = st)) := by
  obtain ⟨h1, h2, h3⟩ := h
  refine ⟨fun e => ⟨fun e2 => by omega, fun e2 => ?_⟩, fun e => ⟨fun e2 => ?_, fun e2 => ?_⟩⟩
  all_goals
    by_cases hc : c < n
    · have := h2 hc; omega
    · omega
theorem Seen.all {n : Nat} {c : Nat} (h : Seen n (n : Int) c) : c = n := by
  obtain ⟨h1, h2, h3⟩ := h
  by_cases hc : c < n
  · have := h2 hc; omega
  · omega

set_option maxHeartbeats 2000000 in
set_option maxRecDepth 8000 in
theorem mlaw_main (a : Option Addr) (n cap : Nat) (st : Int) (K V : Nat → Value) (w : World) (hn : n ≤ 1048576) (h : MemAt w.heap.size w a n K V) :
    Calls Try.prog 4 #[.slice a n cap, .int .i64 st] w fun e w' => e = .returned (.bool true) ∧ Below w.heap.size w w' := by
  have hmk := run_make_row' (P := Try.prog) 26 27 (.slice none 0 0) 24 Try.underlying26 Try.info27 rfl .i64 .i64 n (by omega) (by omega)
  have hs : ∀ i, i < n → IsSl (K i) ∧ IsSl (V i) := fun i hi => by
    obtain ⟨b, off, _, _, _, _, h1, h2⟩ := h i hi
    exact ⟨h1.isSl, h2.isSl⟩
  go_enter Try.func4, Try.ntmps4
  go_wp2_with fail
  refine (bytes7_any a n cap st K V w.heap.size w (by unfold maxLen; omega) h).mono ?_
  rintro e w' ⟨⟨b, rfl, _⟩, rfl⟩
  cases b with
  | false =>
    go_wp2
    go_ret
    exact ⟨rfl, Below.refl _ _⟩
  | true =>
    go_wp2_with fail
    refine (raw_any a n cap K V w.heap.size w hn h).mono ?_
    rintro e w' ⟨⟨r, rfl⟩, rfl⟩
    by_cases hr : 1048576 < r
    · go_wp2
      go_ret
      exact ⟨rfl, Below.refl _ _⟩
    · obtain ⟨w1, hw1⟩ : ∃ w1, w1 = (w.alloc (Obj.cells (madeCells #[.slice none 0 0] n) 27)).alloc (Obj.cells (madeCells #[.slice none 0 0] n) 27) := ⟨_, rfl⟩
      have rk1 : w1.rowIs w.heap.size 27 n (fun _ => .slice none 0 0) := by
        rw [hw1]
        exact (World.rowIs_made w (.slice none 0 0) n 27).alloc _
      have rv1 : w1.rowIs (w.heap.size + 1) 27 n (fun _ => .slice none 0 0) := by
        rw [hw1]
        have := World.rowIs_made (w.alloc (Obj.cells (madeCells #[.slice none 0 0] n) 27)) (.slice none 0 0) n 27
        simp only [World.size_alloc] at this
        exact this
      have hb1 : Below w.heap.size w w1 := by
        rw [hw1]
        exact ((Below.refl _ _).alloc (Nat.le_refl _) _).alloc (by simp) _
      go_wp2
      rw [← hw1]
      obtain ⟨bk, hbk⟩ : ∃ b, b = w.heap.size := ⟨_, rfl⟩
      obtain ⟨bv, hbv⟩ : ∃ b, b = w.heap.size + 1 := ⟨_, rfl⟩
      have lk : w.heap.size ≤ bk ∧ w.heap.size ≤ bv ∧ bk ≠ bv := by omega
      rw [← hbv, ← hbk]
      rw [← hbk] at rk1
      rw [← hbv] at rv1
      obtain ⟨lk, lv, nkv⟩ := lk
      clear hbk hbv hw1 hmk
      go_loopg [7] n (fun g0 iv wx => ∃ j : Nat, j + g0 = n ∧ iv = .int .i64 j ∧ Below w.heap.size w wx ∧ wx.rowIs bk 27 n (fun i => if i < j then K i else .slice none 0 0) ∧ wx.rowIs bv 27 n (fun i => if i < j then V i else .slice none 0 0))
      case atStart =>
        refine ⟨0, by omega, rfl, hb1, ?_, ?_⟩
        · simpa using rk1
        · simpa using rv1
      case round =>
        clear rk1 rv1 hb1
        obtain ⟨j, hj, rfl, hb2, rk2, rv2⟩ := hrel
        by_cases hjn : j < n
        · obtain ⟨b, off, rfl, hb, c1, c2, _, _⟩ := (h.below hb2) j hjn
          obtain ⟨⟨a3, l5, c3, eK⟩, ⟨a4, l6, c4, eV⟩⟩ := hs j hjn
          have ck := rk2.cell hjn
          have fk := rk2.frozen j
          have cv := rv2.cell hjn
          have fv := rv2.frozen j
          rw [eK] at c1
          rw [eV] at c2
          have hjn' : (j : Int) < (n : Int) := by omega
          have hbk : b ≠ bk := by omega
          have hbv : b ≠ bv := by omega
          have HK := (show Hid _ from eK)
          have HV := (show Hid _ from eV)
          clear eK eV
          have c2' : ∀ v, (wr.setCell ⟨bk, j, none⟩ v).cell? ⟨b, off + j * 2 + 1, none⟩ = some (Value.slice a4 l6 c4) := by
            intro v
            rw [World.cell?_setCell_other _ _ _ _ (by intro e; injection e with e1; omega)]
            exact c2
          have cv' : ∀ v, (wr.setCell ⟨bk, j, none⟩ v).cell? ⟨bv, j, none⟩ = some (if j < j then V j else Value.slice none 0 0) := by
            intro v
            exact (rv2.setOther (a := ⟨bk, j, none⟩) (by show bv ≠ bk; omega) v).cell hjn
          have fv' : ∀ v, (wr.setCell ⟨bk, j, none⟩ v).frozen? ⟨bv, j, none⟩ = false := fun v => (rv2.setOther (a := ⟨bk, j, none⟩) (by show bv ≠ bk; omega) v).frozen j
          go_wp2
          go_roundg (gk - 1)
          case measure => omega
          case rel =>
            refine ⟨j + 1, by omega, by go_num, (hb2.setCell (p := ⟨bk, j, none⟩) lk _).setCell (p := ⟨bv, j, none⟩) lv _, ?_, ?_⟩
            · exact (row_step (F := K) rk2 HK.out.symm).setOther (by show bk ≠ bv; omega) _
            · exact row_step (F := V) (rv2.setOther (a := ⟨bk, j, none⟩) (by show bv ≠ bk; omega) _) HV.out.symm
        · obtain rfl : j = n := by omega
          have rk3 : wr.rowIs bk 27 j K := rk2.congr (by intro i hi; simp [hi])
          have rv3 : wr.rowIs bv 27 j V := rv2.congr (by intro i hi; simp [hi])
          have lk3 := rk3.lt
          have lv3 := rv3.lt
          have hz1 := zmembers_any K V j j j (j : Int) wr _ _ hn (At.of_rowIs rk3 lk3) (At.of_rowIs rv3 lv3) hs
          clear rk2 rv2
          go_wp2_with fail
          refine hz1.mono ?_
          rintro e w4 ⟨c1, aK1, cK1, aV1, cV1, rfl, hs1, atK1, atV1, hb4⟩
          obtain rfl := hs1.all
          clear hz1 hs1
          have rk4 := rk3.of_block (hb4.block _ lk3)
          have rv4 := rv3.of_block (hb4.block _ lv3)
          have lk4 := rk4.lt
          have lv4 := rv4.lt
          have hz2 := zmembers_any K V c1 c1 c1 st w4 _ _ hn (At.of_rowIs rk4 lk4) (At.of_rowIs rv4 lv4) hs
          clear rk3 rv3
          go_wp2_with fail
          refine hz2.mono ?_
          rintro e w5 ⟨c2, aK2, cK2, aV2, cV2, rfl, hs2, atK2, atV2, hb5⟩
          have hb6 : Below w.heap.size w w5 := (hb2.trans (hb4.mono hb2.size)).trans (hb5.mono (Nat.le_trans hb2.size hb4.size))
          have atK1' := atK1.below hb5
          have atV1' := atV1.below hb5
          have h6 := h.below hb6
          have hcnt := hs2.count
          have hc2 := hs2.1
          clear hz2 rk4 rv4 hs2 hb2 hb4 hb5 h atK1 atV1
          obtain ⟨m1, hm1, hm2⟩ : ∃ m1 : Int, (st < 1 → m1 = 1) ∧ (1 ≤ st → m1 = st) := by
            by_cases e : st < 1
            · exact ⟨1, fun _ => rfl, fun e2 => by omega⟩
            · exact ⟨st, fun e2 => absurd e2 e, fun _ => rfl⟩
          have hk1 : (c1 : Int) < m1 → c2 = c1 := by
            intro e
            by_cases e2 : st < 1
            · have := hm1 e2; exact (hcnt.1 e2).1 (by omega)
            · have := hm2 (by omega); exact (hcnt.2 (by omega)).1 (by omega)
          have hk2 : m1 ≤ (c1 : Int) → (c2 : Int) = m1 := by
            intro e
            by_cases e2 : st < 1
            · have := hm1 e2; have := (hcnt.1 e2).2 (by omega); omega
            · have := hm2 (by omega); have := (hcnt.2 (by omega)).2 (by omega); omega
          have HK1 := (show Hid _ from hk1)
          have HK2 := (show Hid _ from hk2)
          have HM1 := (show Hid _ from hm1)
          have HM2 := (show Hid _ from hm2)
          clear hk1 hk2 hm1 hm2 hcnt
          go_upto_if 67 with fail
          go_cut [12] (fun v wx => v = .int .i64 m1 ∧ w5 = wx)
          case first =>
            by_cases e : st < 1
            · go_wp2
              go_meet
              case rel => exact ⟨by rw [HM1.out e], rfl⟩
            · go_wp2
              go_meet
              case rel => exact ⟨by rw [HM2.out (by omega)], rfl⟩
          case rest =>
            obtain ⟨rfl, rfl⟩ := hcut
            go_upto_if 71 with fail
            go_cut [12] (fun v wx => v = .int .i64 (c2 : Nat) ∧ w5 = wx)
            case first =>
              by_cases e : (c1 : Int) < m1
              · go_wp2
                go_meet
                case rel => exact ⟨by rw [HK1.out e], rfl⟩
              · go_wp2
                go_meet
                case rel => exact ⟨by rw [HK2.out (by omega)], rfl⟩
            case rest =>
              obtain ⟨rfl, rfl⟩ := hcut
              go_wp2
              go_loopg [13] c1 (fun g0 iv wx => ∃ j q : Nat, j + g0 = c1 ∧ iv = .int .i64 j ∧ wx = w5.drewN q)
              case atStart => exact ⟨0, 0, by omega, rfl, rfl⟩
              case round =>
                obtain ⟨j, q, hj, rfl, rfl⟩ := hrel
                by_cases hjn : j < c1
                · obtain ⟨b, off, rfl, hb, x1, x2, y1, y2⟩ := h6 j (by omega)
                  obtain ⟨⟨a3, l5, c3, eK⟩, ⟨a4, l6, c4, eV⟩⟩ := hs j (by omega)
                  obtain ⟨b1, o1, rfl, _, x3⟩ := atK1' j hjn
                  obtain ⟨b2, o2, rfl, _, x4⟩ := atV1' j hjn
                  rw [eK] at x1 y1 x3
                  rw [eV] at x2 y2 x4
                  have hjn' : (j : Int) < (c1 : Int) := by omega
                  have hjn2 : (j : Int) < (c1 : Int) := by omega
                  obtain ⟨wz, hwz⟩ : ∃ wz, wz = w5.drewN q := ⟨_, rfl⟩
                  have z1 := y1.drawn q
                  have z2 := y2.drawn q
                  have x1' : (w5.drewN q).cell? ⟨b, off + j * 2, none⟩ = some (.slice a3 l5 c3) := x1
                  have x2' : (w5.drewN q).cell? ⟨b, off + j * 2 + 1, none⟩ = some (.slice a4 l6 c4) := x2
                  have x3' : (w5.drewN q).cell? ⟨b1, o1 + j, none⟩ = some (.slice a3 l5 c3) := x3
                  have x4' : (w5.drewN q).cell? ⟨b2, o2 + j, none⟩ = some (.slice a4 l6 c4) := x4
                  rw [← hwz] at z1 z2 x1' x2' x3' x4' ⊢
                  have HWZ := (show Hid _ from hwz)
                  clear eK eV hwz x1 x2 x3 x4 y1 y2
                  go_wp2
                  go_quiet (first
                    | (go_at_call_of 10 (Value.slice a3 l5 c3); refine Calls.quiet_of (same_any (.slice a3 l5 c3) w.heap.size _ ?_); exact z1.drawn _)
                    | (go_at_call_of 10 (Value.slice a4 l6 c4); refine Calls.quiet_of (same_any (.slice a4 l6 c4) w.heap.size _ ?_); exact z2.drawn _))
                  go_wp2
                  go_roundg (gk - 1)
                  case measure => omega
                  case rel => exact ⟨j + 1, _, by omega, by go_num, by rw [HWZ.out, World.drewN_drewN]⟩
                · go_wp2
                  go_loopg [14] c2 (fun g0 iv wx => ∃ j q : Nat, j + g0 = c2 ∧ iv = .int .i64 j ∧ wx = w5.drewN q)
                  case atStart => exact ⟨0, q, by omega, rfl, rfl⟩
                  case round =>
                    obtain ⟨j, q, hj, rfl, rfl⟩ := hrel
                    by_cases hjn : j < c2
                    · obtain ⟨b, off, rfl, hb, x1, x2, y1, y2⟩ := h6 j (by omega)
                      obtain ⟨⟨a3, l5, c3, eK⟩, ⟨a4, l6, c4, eV⟩⟩ := hs j (by omega)
                      obtain ⟨b1, o1, rfl, _, x3⟩ := atK2 j hjn
                      obtain ⟨b2, o2, rfl, _, x4⟩ := atV2 j hjn
                      rw [eK] at x1 y1 x3
                      rw [eV] at x2 y2 x4
                      have hjn' : (j : Int) < (c2 : Int) := by omega
                      have hjn2 : (j : Int) < (c1 : Int) := by omega
                      obtain ⟨wz, hwz⟩ : ∃ wz, wz = w5.drewN q := ⟨_, rfl⟩
                      have z1 := y1.drawn q
                      have z2 := y2.drawn q
                      have x1' : (w5.drewN q).cell? ⟨b, off + j * 2, none⟩ = some (.slice a3 l5 c3) := x1
                      have x2' : (w5.drewN q).cell? ⟨b, off + j * 2 + 1, none⟩ = some (.slice a4 l6 c4) := x2
                      have x3' : (w5.drewN q).cell? ⟨b1, o1 + j, none⟩ = some (.slice a3 l5 c3) := x3
                      have x4' : (w5.drewN q).cell? ⟨b2, o2 + j, none⟩ = some (.slice a4 l6 c4) := x4
                      rw [← hwz] at z1 z2 x1' x2' x3' x4' ⊢
                      have HWZ := (show Hid _ from hwz)
                      clear eK eV hwz x1 x2 x3 x4 y1 y2
                      go_wp2
                      go_quiet (first
                        | (go_at_call_of 10 (Value.slice a3 l5 c3); refine Calls.quiet_of (same_any (.slice a3 l5 c3) w.heap.size _ ?_); exact z1.drawn _)
                        | (go_at_call_of 10 (Value.slice a4 l6 c4); refine Calls.quiet_of (same_any (.slice a4 l6 c4) w.heap.size _ ?_); exact z2.drawn _))
                      go_wp2
                      go_roundg (gk - 1)
                      case measure => omega
                      case rel => exact ⟨j + 1, _, by omega, by go_num, by rw [HWZ.out, World.drewN_drewN]⟩
                    · go_wp2
                      go_ret
                      exact ⟨rfl, below_drawn hb6 _⟩

end Go.Proofs.Qxb6613436a
