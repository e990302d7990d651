import Derived.Test.Qxb6608919aIns
namespace Go.Proofs.Qxb6608919a
open Go.RowKit

theorem row_step {w : World} {b : Nat} {t : TypeId} {n j : Nat} {F : Nat → Value} {z v : Value} (h : w.rowIs b t n (fun i => if i < j then F i else z)) (hv : v = F j) :
    (w.setCell ⟨b, j, none⟩ v).rowIs b t n (fun i => if i < j + 1 then F i else z) := by
  refine (h.set j v).congr ?_
  intro i _
  by_cases e : i = j
  · subst e; simp [hv]
  · simp only [e, if_false]
    by_cases e2 : i < j
    · simp [e2, show i < j + 1 by omega]
    · simp [e2, show ¬ i < j + 1 by omega]

theorem IntsAt.of_rowIs {w : World} {g : Nat} {t : TypeId} {n : Nat} {l : List Int} (h : w.rowIs g t n (fun i => .int .i64 (l.getD i 0))) (hl : l.length = n) : IntsAt w (some ⟨g, 0, none⟩) l := by
  intro i hi
  refine ⟨g, 0, rfl, h.lt, ?_⟩
  rw [Nat.zero_add, h.cell (by omega)]
  simp [List.getD, hi]

set_option maxHeartbeats 2000000 in
set_option maxRecDepth 8000 in
theorem ins_main (a : Option Addr) (n c : Nat) (l : List Int) (k : Nat) (x : Int) (w : World) (hlc : n ≤ c) (hn : n ≤ 65536) (hl : l.length = n) (hc : IntsAt w a l) (hk : k ≤ n) :
    Calls Try.prog 4 #[.slice a n c, .int .i64 k, .int .i64 x] w fun e w' => e = .returned (.bool true) ∧ Below w.heap.size w w' := by
  have hmk := run_make_row' (P := Try.prog) 22 3 (.int .i64 0) 8 Try.underlying22 Try.info3 rfl .i64 .i64 n (by omega) (by omega)
  have hmk1 := run_make_row' (P := Try.prog) 22 3 (.int .i64 0) 8 Try.underlying22 Try.info3 rfl .i64 .i64 (n + 1) (by omega) (by omega)
  rw [show (((n + 1 : Nat)) : Int) = (n : Int) + 1 by omega] at hmk1
  have hneq := fun w => run_neq_slice_nil_any (P := Try.prog) w 22 3 a n c 0 0 Try.underlying22
  have hd1 : decide ((65536 : Int) < (n : Int)) = false := decide_eq_false (by omega)
  have hd2 : decide ((k : Int) < 0) = false := decide_eq_false (by omega)
  have hd3 : decide (n < k) = false := decide_eq_false (by omega)
  have hil := insL_length l k x
  go_enter Try.func4, Try.ntmps4
  go_upto_if 33 with (go_at_call 8; refine (bytes8_yes _ _ _ _ _ _ (by omega)).mono ?_; rintro e w' ⟨rfl, rfl⟩)
  go_cut [0] (fun s wc => ∃ a' c', s = .slice a' n c' ∧ IntsAt wc a' l ∧ n ≤ c' ∧ Below w.heap.size w wc)
  case first =>
    clear hmk1 hil
    cases a with
    | none =>
      clear hmk
      go_wp2
      go_meet
      case rel => exact ⟨none, c, rfl, hc, hlc, Below.refl _ _⟩
    | some ad =>
      obtain ⟨w1, hcp, hrow1, hb1, hs1⟩ := run_copy_ints (P := Try.prog) (w.alloc (.cells (madeCells #[.int .i64 0] n) 3)) 22 22 3 3 Try.underlying22 size3 w.heap.size n n c (some ad) l hl (madeCells #[.int .i64 0] n) 3 (heap_new _ _) (size_madeCells _ _) (hc.below ((Below.refl _ _).alloc (Nat.le_refl _) _))
      go_wp2
      go_meet
      case rel => exact ⟨_, n, rfl, IntsAt.of_row hrow1, Nat.le_refl _, ((Below.refl _ _).alloc (Nat.le_refl _) _).trans hb1⟩
  case rest =>
    obtain ⟨a', c', rfl, hc', hlc', hb⟩ := hcut
    have HIL : Hid ((insL l k x).length = l.length + 1) := hil
    clear hil hmk hneq
    go_wp2
    go_loopg [9] k (fun g i wr => ∃ j : Nat, j + g = k ∧ i = .int .i64 j ∧ Below wc.heap.size wc wr ∧ wr.rowIs wc.heap.size 3 (n + 1) (fun i => if i < j then .int .i64 ((insL l k x).getD i 0) else .int .i64 0))
    case atStart =>
      refine ⟨0, by omega, rfl, (Below.refl _ _).alloc (Nat.le_refl _) _, ?_⟩
      simp only [Nat.not_lt_zero, if_false]
      exact World.rowIs_made wc (.int .i64 0) (n + 1) 3
    case round =>
      obtain ⟨j, hj, rfl, hbr, hr⟩ := hrel
      by_cases hlt : j < k
      · obtain ⟨b, off, rfl, hbl, hcell⟩ := hc' j (by omega)
        rw [← hbr.cell hbl] at hcell
        have hfr := hr.frozen j
        have hce := hr.cell (i := j) (by omega)
        have hV : Hid ((insL l k x).getD j 0 = l[j]) := insL_lt l k x j hlt (by omega)
        go_wp2
        go_roundg (gk - 1)
        case measure => omega
        case rel => exact ⟨j + 1, by omega, by go_num, hbr.setCell (Nat.le_refl _) _, row_step (F := fun i => .int .i64 ((insL l k x).getD i 0)) hr (by rw [hV.out])⟩
      · obtain rfl : j = k := by omega
        have hfr := hr.frozen j
        have hce := hr.cell (i := j) (by omega)
        go_wp2
        have hr2 := row_step (F := fun i => .int .i64 ((insL l j x).getD i 0)) (v := .int .i64 x) hr (by simp only [insL_at l j x (by omega)])
        have hb2 := hbr.setCell (p := ⟨wc.heap.size, j, none⟩) (Nat.le_refl _) (.int .i64 x)
        clear hfr hce hlt hj
        go_loopg [10] (n - j) (fun g i wr => ∃ m : Nat, m + g = n ∧ j ≤ m ∧ i = .int .i64 m ∧ Below wc.heap.size wc wr ∧ wr.rowIs wc.heap.size 3 (n + 1) (fun i => if i < m + 1 then .int .i64 ((insL l j x).getD i 0) else .int .i64 0))
        case atStart => exact ⟨j, by omega, Nat.le_refl _, rfl, hb2, hr2⟩
        case round =>
          clear hr2 hb2 hbr hr
          obtain ⟨m, hm, hjm, rfl, hbr, hr⟩ := hrel
          by_cases hlt : m < n
          · obtain ⟨b, off, rfl, hbl, hcell⟩ := hc' m (by omega)
            rw [← hbr.cell hbl] at hcell
            have hfr := hr.frozen (m + 1)
            have hce := hr.cell (i := m + 1) (by omega)
            have hV : Hid ((insL l j x).getD (m + 1) 0 = l[m]) := insL_gt l j x m hjm (by omega)
            go_wp2
            go_roundg (gk - 1)
            case measure => omega
            case rel => exact ⟨m + 1, by omega, by omega, by go_num, hbr.setCell (Nat.le_refl _) _, row_step (F := fun i => .int .i64 ((insL l j x).getD i 0)) hr (by rw [hV.out])⟩
          · obtain rfl : m = n := by omega
            have hr3 := hr.congr (g := fun i => .int .i64 ((insL l j x).getD i 0)) (by intro i hi; simp [hi])
            clear hr hlt hm
            go_wp2_with fail
            refine (ends_any a' m c' l _ (by omega) hl (hc'.below hbr)).mono ?_
            rintro e w1 ⟨rfl, hb1, -, hr1⟩
            have hz1 := hr1.lt
            have hz0 := hr3.lt
            have hins : IntsAt w1 (some ⟨wc.heap.size, 0, none⟩) (insL l j x) := (IntsAt.of_rowIs hr3 (by rw [HIL.out, hl])).below hb1
            go_wp2_with fail
            refine (ends_any _ (m + 1) (m + 1) (insL l j x) _ (by omega) (by rw [HIL.out, hl]) hins).mono ?_
            rintro e w2 ⟨rfl, hb2, -, hr2⟩
            have hz2 := hr2.lt
            have r1 : w2.rowIs (wr.heap.size + 1) 3 m fun i => Value.int IntKind.i64 (tot (l.take (i + 1))) := hr1.of_block (hb2.block _ (by omega))
            have hB2 : Below w.heap.size w w2 := ((hb.trans (hbr.mono hb.size)).trans (hb1.mono (by have := hb.size; have := hbr.size; omega))).trans (hb2.mono (by have := hb.size; have := hbr.size; omega))
            clear hr1 hins hb1 hb2 hr3 hbr hc' hb
            go_upto_if 94 with fail
            go_cut [13] (fun o wx => o = .int .i64 (tot (l.take j)) ∧ w2 = wx)
            case first =>
              by_cases hk0 : 0 < j
              · have hcell := r1.cell (i := j - 1) (by omega)
                rw [show j - 1 + 1 = j by omega] at hcell
                go_wp2
                go_meet
                case rel => exact ⟨rfl, rfl⟩
              · have hk0 : j = 0 := by omega
                subst hk0
                go_wp2
                go_meet
                case rel => exact ⟨rfl, rfl⟩
            case rest =>
              obtain ⟨rfl, rfl⟩ := hcut
              go_wp2
              go_loopg [14] j (fun g i wr => ∃ q : Nat, q + g = j ∧ i = .int .i64 q ∧ ∃ d, wr = w2.drewN d)
              case atStart => exact ⟨0, by omega, rfl, 0, rfl⟩
              case round =>
                obtain ⟨i, hi, rfl, d, rfl⟩ := hrel
                by_cases hlt : i < j
                · have h1 := r1.cell (i := i) (by omega)
                  have h2 := hr2.cell (i := i) (by omega)
                  rw [tot_ins_lt l j x i hlt (by omega)] at h2
                  have hlt' : (i : Int) < (m : Int) := by omega
                  have hlt2 : (i : Int) < (m : Int) + 1 := by omega
                  go_wp2
                  go_quiet (fail)
                  go_wp2
                  go_roundg (gk - 1)
                  case measure => omega
                  case rel => exact ⟨i + 1, by omega, by go_num, _, rfl⟩
                · obtain rfl : i = j := by omega
                  have h2 := hr2.cell (i := i) (by omega)
                  rw [tot_ins_at l i x (by omega)] at h2
                  go_wp2
                  clear h2 hi hlt
                  go_loopg [15] (m - i) (fun g v wr => ∃ q : Nat, q + g = m ∧ i ≤ q ∧ v = .int .i64 q ∧ ∃ d, wr = w2.drewN d)
                  case atStart => exact ⟨i, by omega, Nat.le_refl _, rfl, d, rfl⟩
                  case round =>
                    obtain ⟨q, hq, hiq, rfl, d2, rfl⟩ := hrel
                    by_cases hlt : q < m
                    · have h1 := r1.cell (i := q) hlt
                      have h2 := hr2.cell (i := q + 1) (by omega)
                      rw [tot_ins_gt l i x q hiq (by omega)] at h2
                      have hlt' : (q : Int) < (m : Int) := by omega
                      have hlt2 : (q : Int) + 1 < (m : Int) + 1 := by omega
                      go_wp2
                      go_quiet (fail)
                      go_wp2
                      go_roundg (gk - 1)
                      case measure => omega
                      case rel => exact ⟨q + 1, by omega, by omega, by go_num, _, rfl⟩
                    · go_wp2
                      go_ret
                      exact ⟨rfl, below_drawn hB2 _⟩

end Go.Proofs.Qxb6608919a
