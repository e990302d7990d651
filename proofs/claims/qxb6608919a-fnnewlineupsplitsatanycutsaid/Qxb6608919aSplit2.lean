import Derived.Test.Qxb6608919aSplit
import Derived.Test.Qxb6608919aCopy
namespace Go.Proofs.Qxb6608919a
open Go.RowKit

set_option maxHeartbeats 1000000 in
set_option maxRecDepth 8000 in
theorem split_main (a : Option Addr) (n c : Nat) (l : List Int) (k : Nat) (w : World) (hlc : n ≤ c) (hn : n ≤ 65536) (hl : l.length = n) (hc : IntsAt w a l) (hk : k ≤ n) :
    Calls Try.prog 3 #[.slice a n c, .int .i64 k] w fun e w' => e = .returned (.bool true) ∧ Below w.heap.size w w' := by
  have hmk := run_make_row' (P := Try.prog) 22 3 (.int .i64 0) 8 Try.underlying22 Try.info3 rfl .i64 .i64 n (by omega) (by omega)
  have hneq := fun w => run_neq_slice_nil_any (P := Try.prog) w 22 3 a n c 0 0 Try.underlying22
  have hd1 : decide ((65536 : Int) < (n : Int)) = false := decide_eq_false (by omega)
  have hd2 : decide ((k : Int) < 0) = false := decide_eq_false (by omega)
  have hd3 : decide (n < k) = false := decide_eq_false (by omega)
  go_enter Try.func3, Try.ntmps3
  go_upto_if 30 with (go_at_call 6; refine (bytes6_yes _ _ _ _ _ (by omega)).mono ?_; rintro e w' ⟨rfl, rfl⟩)
  go_cut [0] (fun s wc => ∃ a' c', s = .slice a' n c' ∧ IntsAt wc a' l ∧ n ≤ c' ∧ Below w.heap.size w wc)
  case first =>
    cases a with
    | none =>
      clear hmk
      go_wp2
      go_meet
      case rel => exact ⟨none, c, rfl, hc, hlc, Below.refl _ _⟩
    | some ad =>
      obtain ⟨w1, hcp, hrow1, hb1, hs1⟩ := run_copy_ints (P := Try.prog) (w.alloc (.cells (madeCells #[.int .i64 0] n) 3)) 22 22 3 3 Try.underlying22 size3 w.heap.size n n c (some ad) l hl (madeCells #[.int .i64 0] n) 3 (heap_new _ _) (size_madeCells _ _) (hc.below ((Below.refl _ _).alloc (Nat.le_refl _) _))
      go_wp2
      go_meet
      case rel => exact ⟨_, n, rfl, IntsAt.of_row hrow1, Nat.le_refl _, ((Below.refl _ _).alloc (Nat.le_refl _) _).trans hb1⟩
  case rest =>
    obtain ⟨a', c', rfl, hc', hlc', hb⟩ := hcut
    go_wp2_with fail
    refine (ends_any a' n c' l _ (by omega) hl hc').mono ?_
    rintro e w1 ⟨rfl, hb1, -, hr1⟩
    have hz1 := hr1.lt
    have hc1 := hc'.below hb1
    go_wp2_with fail
    refine (ends_any a' k c' (l.take k) _ (by omega) (by simp; omega) hc1.take).mono ?_
    rintro e w2 ⟨rfl, hb2, -, hr2⟩
    have hz2 := hr2.lt
    obtain ⟨A, hA, hc2⟩ : ∃ A, (if c' = k then a' else a'.map (fun x => x.add k)) = A ∧ IntsAt w2 A (l.drop k) := ⟨_, rfl, (hc1.below hb2).drop k (by omega)⟩
    go_wp2_with fail
    refine (ends_any _ _ _ (l.drop k) _ (by omega) (by simp; omega) hc2).mono ?_
    rintro e w3 ⟨rfl, hb3, -, hr3⟩
    have hz3 := hr3.lt
    have hB3 : Below w.heap.size w w3 := ((hb.trans (hb1.mono hb.size)).trans (hb2.mono (by have := hb.size; omega))).trans (hb3.mono (by have := hb.size; omega))
    have r1 : w3.rowIs (wc.heap.size + 1) 3 n fun i => Value.int IntKind.i64 (tot (l.take (i + 1))) := (hr1.of_block (hb2.block _ (by omega))).of_block (hb3.block _ (by omega))
    have r2 : w3.rowIs (w1.heap.size + 1) 3 k fun i => Value.int IntKind.i64 (tot ((l.take k).take (i + 1))) := hr2.of_block (hb3.block _ (by omega))
    have r3 := hr3
    have r0 := (hc1.below hb2).below hb3
    clear hr1 hr2 hr3 hc2 hc1 hb1 hb2 hb3 hc' hb hA
    go_upto_if 69 with fail
    go_cut [9] (fun o wx => o = .int .i64 (tot (l.take k)) ∧ w3 = wx)
    case first =>
      by_cases hk0 : 0 < k
      · have hcell := r2.cell (i := k - 1) (by omega)
        rw [show k - 1 + 1 = k by omega, List.take_take, Nat.min_self] at hcell
        go_wp2
        go_meet
        case rel => exact ⟨rfl, rfl⟩
      · have hk0 : k = 0 := by omega
        subst hk0
        go_wp2
        go_meet
        case rel => exact ⟨rfl, rfl⟩
    case rest =>
      obtain ⟨rfl, rfl⟩ := hcut
      go_wp2
      go_loopg [10] k (fun g i wr => ∃ j : Nat, j + g = k ∧ i = .int .i64 j ∧ ∃ q, wr = w3.drewN q)
      case atStart => exact ⟨0, by omega, rfl, 0, rfl⟩
      case round =>
        obtain ⟨j, hj, rfl, q, rfl⟩ := hrel
        by_cases hlt : j < k
        · have h1 := r1.cell (i := j) (by omega)
          have h2 := r2.cell (i := j) (by omega)
          rw [List.take_take, Nat.min_eq_left (by omega)] at h2
          have hlt' : (j : Int) < (n : Int) := by omega
          go_wp2
          go_quiet (fail)
          go_wp2
          go_roundg (gk - 1)
          case measure => omega
          case rel => exact ⟨j + 1, by omega, by go_num, _, rfl⟩
        · go_wp2
          go_loopg [11] (n - k) (fun g i wr => ∃ j : Nat, j + g = n - k ∧ i = .int .i64 j ∧ ∃ q, wr = w3.drewN q)
          case atStart => exact ⟨0, by omega, rfl, q, rfl⟩
          case round =>
            clear hj hlt
            obtain ⟨i, hi, rfl, q2, rfl⟩ := hrel
            by_cases hlt : i < n - k
            · have h1 := r1.cell (i := k + i) (by omega)
              have h2 := r3.cell (i := i) (by omega)
              have hlt' : (k : Int) + (i : Int) < (n : Int) := by omega
              have hlt2 : (i : Int) < ((n - k : Nat) : Int) := by omega
              have heq := tot_split l k i
              obtain ⟨x, hx⟩ : ∃ x, x = tot (l.take (k + i + 1)) := ⟨_, rfl⟩
              obtain ⟨y, hy⟩ : ∃ y, y = tot ((l.drop k).take (i + 1)) := ⟨_, rfl⟩
              rw [← hx] at h1 heq
              rw [← hy] at h2 heq
              have hcmp : (x != wrap64 (y + tot (l.take k))) = false := by simp [heq]
              clear hx hy heq
              go_wp2
              go_quiet (fail)
              go_wp2
              go_roundg (gk - 1)
              case measure => omega
              case rel => exact ⟨i + 1, by omega, by go_num, _, rfl⟩
            · go_wp2
              go_loopg [12, 13] n (fun g t i wr => ∃ j : Nat, j + g = n ∧ i = .int .i64 j ∧ t = .int .i64 (tot (l.take j)) ∧ ∃ q, wr = w3.drewN q)
              case atStart => exact ⟨0, by omega, rfl, by simp [tot], q2, rfl⟩
              case round =>
                clear hi hlt
                obtain ⟨m, hm, rfl, rfl, q3, rfl⟩ := hrel
                by_cases hlt : m < n
                · obtain ⟨b, off, rfl, hbl, hcell⟩ := r0 m (by omega)
                  have hT : Hid (tot (l.take (m + 1)) = wrap64 (tot (l.take m) + l[m])) := tot_take l m (by omega)
                  go_wp2
                  go_roundg (gk - 1)
                  case measure => omega
                  case rel => exact ⟨m + 1, by omega, by go_num, by rw [hT.out], _, rfl⟩
                · have hmn : m = n := by omega
                  subst hmn
                  by_cases h0 : m = 0
                  · subst h0
                    go_wp2
                    go_ret
                    exact ⟨rfl, below_drawn hB3 _⟩
                  · have hd4 : (0 : Int) < (m : Int) := by omega
                    have h1 := r1.cell (i := m - 1) (by omega)
                    rw [show m - 1 + 1 = m by omega] at h1
                    go_wp2
                    go_ret
                    exact ⟨rfl, below_drawn hB3 _⟩

end Go.Proofs.Qxb6608919a
