import Derived.Test.Qxb6608983aBase
namespace Go.Proofs.Qxb6608983a
open Go.RowKit
set_option linter.unusedVariables false

/-- What zzLinksFit asks. -/
def Fits (n la lb lc : Nat) (f g : Nat → Int) : Prop := la = lb ∧ la = lc ∧ ∀ i, i < la → 0 ≤ f i ∧ f i < n ∧ 0 ≤ g i ∧ g i < n ∧ f i ≠ g i

set_option maxHeartbeats 1000000 in
set_option maxRecDepth 8000 in
theorem fit_any (n la lb lc ca cb cc : Nat) (aa ab ac : Option Addr) (f g : Nat → Int) (B : Nat) (w : World) (hn : n ≤ 1048576) (hla : la ≤ 1048576) (hlb : lb ≤ 1048576) (hlc : lc ≤ 1048576)
    (hA : At B w aa la (fun i => .int .i64 (f i))) (hB : At B w ab lb (fun i => .int .i64 (g i))) :
    Calls Try.prog 10 #[.int .i64 n, .slice aa la ca, .slice ab lb cb, .slice ac lc cc] w fun e w' => (∃ b, e = .returned (.bool b) ∧ (b = true → Fits n la lb lc f g)) ∧ ∃ q, w' = w.drewN q := by
  by_cases h1 : la = lb
  rotate_left
  · have hq : ((la : Int) != (lb : Int)) = true := by simp; omega
    clear h1
    go_enter Try.func10, Try.ntmps10
    go_wp2
    go_ret
    exact ⟨⟨false, rfl, by simp⟩, 0, rfl⟩
  by_cases h2 : la = lc
  rotate_left
  · have hq : ((la : Int) != (lb : Int)) = false := by simp; omega
    have hq2 : ((la : Int) != (lc : Int)) = true := by simp; omega
    clear h1 h2
    go_enter Try.func10, Try.ntmps10
    go_wp2
    go_ret
    exact ⟨⟨false, rfl, by simp⟩, 0, rfl⟩
  obtain rfl : la = lb := h1
  obtain rfl : la = lc := h2
  go_enter Try.func10, Try.ntmps10
  go_wp2
  go_loopg [9] la (fun k i wr => ∃ j : Nat, j + k = la ∧ i = .int .i64 j ∧ (∀ i, i < j → 0 ≤ f i ∧ f i < n ∧ 0 ≤ g i ∧ g i < n ∧ f i ≠ g i) ∧ ∃ q, wr = w.drewN q)
  case atStart => exact ⟨0, by omega, rfl, fun i hi => by omega, 0, rfl⟩
  case round =>
    obtain ⟨j, hj, rfl, hall, q, rfl⟩ := hrel
    by_cases hlt : j < la
    · obtain ⟨b1, o1, rfl, _, c1⟩ := hA.int hlt
      obtain ⟨b2, o2, rfl, _, c2⟩ := hB.int hlt
      obtain ⟨x, hx⟩ : ∃ x, x = f j := ⟨_, rfl⟩
      obtain ⟨y, hy⟩ : ∃ x, x = g j := ⟨_, rfl⟩
      rw [← hx] at c1
      rw [← hy] at c2
      have HX : Hid (x = f j) := hx
      have HY : Hid (y = g j) := hy
      have HALL : Hid (∀ i, i < j → 0 ≤ f i ∧ f i < n ∧ 0 ≤ g i ∧ g i < n ∧ f i ≠ g i) := hall
      clear hx hy hall hA hB
      have hlt' : (j : Int) < (la : Int) := by omega
      by_cases t1 : x < 0
      · have d1 : decide (x < 0) = true := decide_eq_true t1
        go_wp2
        go_quiet (fail)
        go_wp2
        go_ret
        exact ⟨⟨false, rfl, by simp⟩, dd⟩
      have d1 : decide (x < 0) = false := decide_eq_false t1
      by_cases t2 : (n : Int) ≤ x
      · have d2 : decide ((n : Int) ≤ x) = true := decide_eq_true t2
        go_wp2
        go_quiet (fail)
        go_wp2
        go_ret
        exact ⟨⟨false, rfl, by simp⟩, dd⟩
      have d2 : decide ((n : Int) ≤ x) = false := decide_eq_false t2
      by_cases t3 : y < 0
      · have d3 : decide (y < 0) = true := decide_eq_true t3
        go_wp2
        go_quiet (fail)
        go_wp2
        go_ret
        exact ⟨⟨false, rfl, by simp⟩, dd⟩
      have d3 : decide (y < 0) = false := decide_eq_false t3
      by_cases t4 : (n : Int) ≤ y
      · have d4 : decide ((n : Int) ≤ y) = true := decide_eq_true t4
        go_wp2
        go_quiet (fail)
        go_wp2
        go_ret
        exact ⟨⟨false, rfl, by simp⟩, dd⟩
      have d4 : decide ((n : Int) ≤ y) = false := decide_eq_false t4
      by_cases t5 : x = y
      · have d5 : (x == y) = true := by simpa using t5
        clear t5
        go_wp2
        go_quiet (fail)
        go_wp2
        go_ret
        exact ⟨⟨false, rfl, by simp⟩, dd⟩
      have d5 : (x == y) = false := by simpa using t5
      have T5 : Hid (¬ x = y) := t5
      clear t5
      go_wp2
      go_quiet (fail)
      go_wp2
      go_roundg (gk - 1)
      case measure => omega
      case rel =>
        refine ⟨j + 1, by omega, by go_num, ?_, _, rfl⟩
        intro i hi
        by_cases e : i = j
        · subst e
          rw [← HX.out, ← HY.out]
          exact ⟨by omega, by omega, by omega, by omega, T5.out⟩
        · exact HALL.out i (by omega)
    · go_wp2
      go_ret
      refine ⟨⟨true, rfl, fun _ => ⟨rfl, rfl, fun i hi => hall i (by omega)⟩⟩, _, rfl⟩


set_option maxHeartbeats 400000 in
theorem clone_any (n c : Nat) (a : Option Addr) (f : Nat → Bool) (B : Nat) (w : World) (hn : n ≤ 1048576) (hB : B ≤ w.heap.size) (hA : At B w a n (fun i => .bool (f i))) :
    Calls Try.prog 13 #[.slice a n c] w fun e w' => ∃ a' c', e = .returned (.slice a' n c') ∧ Below w.heap.size w w' ∧ At w'.heap.size w' a' n (fun i => .bool (f i)) ∧
      (∀ b off, a' = some ⟨b, off, none⟩ → w.heap.size ≤ b) ∧ (a' = none ∨ (a' = some ⟨w.heap.size, 0, none⟩ ∧ w'.rowIs w.heap.size 4 n (fun i => .bool (f i)) ∧ c' = n)) := by
  have hmk := run_make_row' (P := Try.prog) 23 4 (.bool false) 1 Try.underlying23 Try.info4 rfl .i64 .i64 n (by omega) (by omega)
  cases a with
  | none =>
    have hn0 : n = 0 := by
      by_cases h : n = 0
      · exact h
      · obtain ⟨b, off, e, _⟩ := hA 0 (by omega)
        cases e
    subst hn0
    have heq := fun w => Lib.run_eql_slice_nil (P := Try.prog) w 23 4 none 0 c 0 0 Try.underlying23
    go_enter Try.func13, Try.ntmps13
    go_wp2
    go_ret
    exact ⟨none, 0, rfl, Below.refl _ _, fun i hi => by omega, fun b off e => (by cases e), .inl rfl⟩
  | some ad =>
    have heq := fun w => Lib.run_eql_slice_nil (P := Try.prog) w 23 4 (some ad) n c 0 0 Try.underlying23
    go_enter Try.func13, Try.ntmps13
    go_wp2
    go_loopg [4] n (fun g i wr => ∃ j : Nat, j + g = n ∧ i = .int .i64 j ∧ Below w.heap.size w wr ∧ wr.rowIs w.heap.size 4 n (fun i => if i < j then .bool (f i) else .bool false))
    case atStart =>
      refine ⟨0, by omega, rfl, (Below.refl _ _).alloc (Nat.le_refl _) _, ?_⟩
      simp only [Nat.not_lt_zero, if_false]
      exact World.rowIs_made w (.bool false) n 4
    case round =>
      obtain ⟨j, hj, rfl, hb, hr⟩ := hrel
      clear hmk heq
      by_cases hlt : j < n
      · obtain ⟨b, off, e, hbl, hcell⟩ := (hA.below (hb.mono hB)).bool hlt
        obtain rfl : ad = ⟨b, off, none⟩ := by simpa using e
        clear e
        have hfr := hr.frozen j
        have hce := hr.cell (i := j) (by omega)
        go_wp2
        go_roundg (gk - 1)
        case measure => omega
        case rel => exact ⟨j + 1, by omega, by go_num, hb.setCell (Nat.le_refl _) _, row_step (F := fun i => .bool (f i)) hr rfl⟩
      · have hr3 := hr.congr (g := fun i => .bool (f i)) (by intro i hi; simp [show i < j by omega])
        have hlt := hr3.lt
        go_wp2
        go_ret
        refine ⟨_, n, rfl, hb, At.of_rowIs hr3 hlt, fun b off e => ?_, .inr ⟨rfl, hr3, rfl⟩⟩
        simp only [Option.some.injEq, Addr.mk.injEq] at e
        omega

theorem Try.info70 : (Try.prog.info? 70).map (fun i => (i.zero, i.size, i.bytes)) = some (some (.agg #[.int .i64 0, .int .i64 0]), 2, 16) := by kernel_rfl

set_option maxHeartbeats 400000 in
theorem links_any (m ca cb : Nat) (aa ab : Option Addr) (f g : Nat → Nat) (B : Nat) (w : World) (hm : m ≤ 1048576) (hB : B ≤ w.heap.size)
    (hA : At B w aa m (fun i => .int .i64 (f i))) (hA2 : At B w ab m (fun i => .int .i64 (g i))) :
    Calls Try.prog 15 #[.slice aa m ca, .slice ab m cb] w fun e w' => e = .returned (.slice (some ⟨w.heap.size, 0, none⟩) m m) ∧ Below w.heap.size w w' ∧
      w'.rowIs w.heap.size 70 (m * 2) (fun i => .int .i64 (if i % 2 = 0 then f (i / 2) else g (i / 2) : Nat)) := by
  have hmk := run_make_pairs (P := Try.prog) 33 70 16 Try.underlying33 Try.info70 m (by omega) (by omega)
  go_enter Try.func15, Try.ntmps15
  go_wp2
  go_loopg [6] m (fun k i wr => ∃ j : Nat, j + k = m ∧ i = .int .i64 j ∧ Below w.heap.size w wr ∧ wr.rowIs w.heap.size 70 (m * 2) (fun i => if i < j * 2 then .int .i64 (if i % 2 = 0 then f (i / 2) else g (i / 2) : Nat) else .int .i64 0))
  case atStart =>
    refine ⟨0, by omega, rfl, (Below.refl _ _).alloc (Nat.le_refl _) _, ?_⟩
    simp only [Nat.zero_mul, Nat.not_lt_zero, if_false]
    exact rowIs_pairs w m 70
  case round =>
    obtain ⟨j, hj, rfl, hb, hr⟩ := hrel
    clear hmk
    by_cases hlt : j < m
    · obtain ⟨b1, o1, rfl, hb1, c1⟩ := (hA.below (hb.mono hB)).int (f := fun i => (f i : Int)) hlt
      obtain ⟨b2, o2, rfl, hb2, c2⟩ := (hA2.below (hb.mono hB)).int (f := fun i => (g i : Int)) hlt
      have c1' : wr.cell? ⟨b1, o1 + j, none⟩ = some (.int .i64 (f j)) := c1
      have c2' : wr.cell? ⟨b2, o2 + j, none⟩ = some (.int .i64 (g j)) := c2
      clear c1 c2
      have hlt' : (j : Int) < (m : Int) := by omega
      have hf1 := hr.frozen (j * 2)
      have hf2 := hr.frozen (j * 2 + 1)
      have hc1 := hr.cell (i := j * 2) (by omega)
      have hc2 := hr.cell (i := j * 2 + 1) (by omega)
      go_wp2
      go_region
      all_goals
        go_wp2
        go_roundg (gk - 1)
        case measure => omega
        case rel =>
          refine ⟨j + 1, by omega, by go_num, ((hb.setCell (Nat.le_refl _) _).setCell (Nat.le_refl _) _).drew, ?_⟩
          refine World.rowIs.drew (((hr.set (j * 2) (.int .i64 (f j))).set (j * 2 + 1) (.int .i64 (g j))).congr ?_)
          intro i hi
          by_cases e1 : i = j * 2 + 1
          · subst e1
            simp [show (j * 2 + 1) / 2 = j by omega, show (j * 2 + 1) % 2 = 1 by omega, show j * 2 + 1 < (j + 1) * 2 by omega]
          · by_cases e2 : i = j * 2
            · subst e2
              simp [show j * 2 / 2 = j by omega, show j * 2 < (j + 1) * 2 by omega]
            · simp only [e1, e2, if_false]
              by_cases e3 : i < j * 2
              · simp [e3, show i < (j + 1) * 2 by omega]
              · simp [e3, show ¬ i < (j + 1) * 2 by omega]
    · have hr3 := hr.congr (g := fun i => .int .i64 (if i % 2 = 0 then f (i / 2) else g (i / 2) : Nat)) (by intro i hi; simp [show i < j * 2 by omega])
      go_wp2
      go_ret
      exact ⟨rfl, hb, hr3⟩

end Go.Proofs.Qxb6608983a
