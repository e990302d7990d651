import Derived.Test.Qxb6608983aPorts2
namespace Go.Proofs.Qxb6608983a
open Go.RowKit
set_option linter.unusedVariables false
set_option linter.unusedSimpArgs false

/-- The six cells of a walk. -/
def vec6 (a b c d e f : Value) : Nat → Value
  | 0 => a
  | 1 => b
  | 2 => c
  | 3 => d
  | 4 => e
  | _ => f

theorem size_setCell (w : World) (a : Addr) (v : Value) : (w.setCell a v).heap.size = w.heap.size := by simp [World.setCell]

theorem mk_store {w : World} {p tp np : Nat} {f : Nat → Value} (hr : w.rowIs p tp np f) (k : Nat) (v : Value) (n : Nat) :
    Same [p] w ((w.setCell ⟨p, k, none⟩ v).alloc (.cells (madeCells #[.int .i64 0] n) 3)) ∧
    ((w.setCell ⟨p, k, none⟩ v).alloc (.cells (madeCells #[.int .i64 0] n) 3)).rowIs p tp np (fun i => if i = k then v else f i) ∧
    ((w.setCell ⟨p, k, none⟩ v).alloc (.cells (madeCells #[.int .i64 0] n) 3)).rowIs w.heap.size 3 n (fun _ => .int .i64 0) ∧
    ((w.setCell ⟨p, k, none⟩ v).alloc (.cells (madeCells #[.int .i64 0] n) 3)).heap.size = w.heap.size + 1 := by
  refine ⟨((Same.refl _ _).setCell (.inl (by simp)) _).alloc _, (hr.set k v).alloc _, ?_, by simp [size_setCell]⟩
  have := World.rowIs_made (w.setCell ⟨p, k, none⟩ v) (.int .i64 0) n 3
  rw [size_setCell] at this
  exact this

theorem Same.rowIs {X : List Nat} {w w' : World} (h : Same X w w') {b : Nat} {t : TypeId} {n : Nat} {f : Nat → Value} (hr : w.rowIs b t n f) (hb : b ∉ X) : w'.rowIs b t n f := hr.of_block (h.block b hr.lt hb)

set_option maxHeartbeats 400000 in
set_option maxRecDepth 4000 in
theorem allocate_any (p tp np n cP : Nat) (aP : Option Addr) (f : Nat → Value) (w : World) (hn : n ≤ 4096) (hr : w.rowIs p tp np f) (hnp : 6 ≤ np) (h0 : f 0 = .slice aP n cP) :
    Calls Try.prog 40 #[.pointer (some ⟨p, 0, none⟩)] w fun e w' => e = .returned (.tuple #[]) ∧ Same [p] w w' ∧
      w'.rowIs p tp np (fun i => if i = 5 then .slice (some ⟨w.heap.size + 2, 0, none⟩) 0 n else if i = 4 then .slice (some ⟨w.heap.size + 1, 0, none⟩) n n else if i = 3 then .slice (some ⟨w.heap.size, 0, none⟩) n n else f i) ∧
      w'.rowIs w.heap.size 3 n (fun _ => .int .i64 0) ∧ w'.rowIs (w.heap.size + 1) 3 n (fun _ => .int .i64 0) ∧ w'.rowIs (w.heap.size + 2) 3 n (fun _ => .int .i64 0) := by
  have hmk := run_make_row' (P := Try.prog) 22 3 (.int .i64 0) 8 Try.underlying22 Try.info3 rfl .i64 .i64 n (by omega) (by omega)
  have hmk0 := run_make_zero (P := Try.prog) 22 3 Try.underlying22 Try.info3 n (by omega)
  have hp := hr.lt
  have c0 : w.cell? ⟨p, 0, none⟩ = some (.slice aP n cP) := by rw [hr.cell (by omega), h0]
  have c3 := hr.cell (i := 3) (by omega)
  have f3 := hr.frozen 3
  go_enter Try.func40, Try.ntmps40
  go_upto_region 0 with fail
  go_cut [] (fun wx => Same [p] w wx ∧ wx.rowIs p tp np (fun i => if i = 3 then .slice (some ⟨w.heap.size, 0, none⟩) n n else f i) ∧ wx.rowIs w.heap.size 3 n (fun _ => .int .i64 0) ∧ Hid (wx.heap.size = w.heap.size + 1))
  case first =>
    clear hmk0
    go_wp2
    go_meet
    case rel => exact mk_store hr 3 _ n
  case rest =>
    obtain ⟨hs1, hr1, hd1, hz1⟩ := hcut
    clear c0 c3 f3
    have hp1 := hr1.lt
    have c0 : wc.cell? ⟨p, 0, none⟩ = some (.slice aP n cP) := by rw [hr1.cell (by omega)]; simp [h0]
    have c4 := hr1.cell (i := 4) (by omega)
    have f4 := hr1.frozen 4
    go_upto_region 1 with fail
    go_cut [] (fun wx => Same [p] wc wx ∧ wx.rowIs p tp np (fun i => if i = 4 then .slice (some ⟨wc.heap.size, 0, none⟩) n n else if i = 3 then .slice (some ⟨w.heap.size, 0, none⟩) n n else f i) ∧ wx.rowIs wc.heap.size 3 n (fun _ => .int .i64 0) ∧ Hid (wx.heap.size = wc.heap.size + 1))
    case first =>
      clear hmk0
      go_wp2
      go_meet
      case rel => exact mk_store hr1 4 _ n
    case rest =>
      rename World => wd
      obtain ⟨hs2, hr2, hd2, hz2⟩ := hcut
      clear c0 c4 f4
      have hp2 := hr2.lt
      have c0 : wd.cell? ⟨p, 0, none⟩ = some (.slice aP n cP) := by rw [hr2.cell (by omega)]; simp [h0]
      have c5 := hr2.cell (i := 5) (by omega)
      have f5 := hr2.frozen 5
      clear hmk
      go_wp2
      go_end0
      obtain ⟨hs3, hr3, hd3, hz3⟩ := mk_store hr2 5 (.slice (some ⟨wd.heap.size, 0, none⟩) 0 n) n
      have e1 := hz1.out
      have e2 := hz2.out
      have e3 : wd.heap.size = w.heap.size + 2 := by omega
      have d1 := hs3.rowIs (hs2.rowIs hd1 (by simp; omega)) (by simp; omega)
      have d2 := hs3.rowIs hd2 (by simp; omega)
      have hs := (hs1.trans (hs2.mono (by intro x hx; exact .inl hx))).trans hs3
      refine ⟨rfl, hs, ?_, d1, by rw [← e1]; exact d2, by rw [← e3]; exact hd3⟩
      rw [e1, e3] at hr3
      rw [e3]
      exact hr3

set_option maxHeartbeats 400000 in
theorem newWalk_any (aP aF aC : Option Addr) (n nF cF m cC : Nat) (w : World) (hn : n ≤ 4096) :
    Calls Try.prog 11 #[.slice aP n n, .slice aF nF cF, .slice aC m cC] w fun e w' => e = .returned (.pointer (some ⟨w.heap.size, 0, none⟩)) ∧ Below w.heap.size w w' ∧
      w'.rowIs w.heap.size 58 6 (vec6 (.slice aP n n) (.slice aF nF cF) (.slice aC m cC) (.slice (some ⟨w.heap.size + 1, 0, none⟩) n n) (.slice (some ⟨w.heap.size + 2, 0, none⟩) n n) (.slice (some ⟨w.heap.size + 3, 0, none⟩) 0 n)) ∧
      w'.rowIs (w.heap.size + 1) 3 n (fun _ => .int .i64 0) ∧ w'.rowIs (w.heap.size + 2) 3 n (fun _ => .int .i64 0) ∧ w'.rowIs (w.heap.size + 3) 3 n (fun _ => .int .i64 0) := by
  have hrow : (w.alloc (.cells #[.slice aP n n, .slice aF nF cF, .slice aC m cC, .slice none 0 0, .slice none 0 0, .slice none 0 0] 58)).rowIs w.heap.size 58 6 (vec6 (.slice aP n n) (.slice aF nF cF) (.slice aC m cC) (.slice none 0 0) (.slice none 0 0) (.slice none 0 0)) := by
    refine World.rowIs_alloc w #[.slice aP n n, .slice aF nF cF, .slice aC m cC, .slice none 0 0, .slice none 0 0, .slice none 0 0] 58 _ ?_
    intro i hi
    simp at hi
    have : i = 0 ∨ i = 1 ∨ i = 2 ∨ i = 3 ∨ i = 4 ∨ i = 5 := by omega
    rcases this with rfl | rfl | rfl | rfl | rfl | rfl <;> rfl
  go_enter Try.func11, Try.ntmps11
  go_wp2_with fail
  refine (allocate_any w.heap.size 58 6 n n aP _ _ hn hrow (by omega) rfl).mono ?_
  rintro e w' ⟨rfl, hs, hr, d1, d2, d3⟩
  go_wp2
  go_ret
  have e1 : (w.alloc (.cells #[.slice aP n n, .slice aF nF cF, .slice aC m cC, .slice none 0 0, .slice none 0 0, .slice none 0 0] 58)).heap.size = w.heap.size + 1 := by simp
  rw [e1] at hr d1 d2 d3
  refine ⟨rfl, ((Below.refl _ _).alloc (Nat.le_refl _) _).trans (hs.toBelow (by rw [e1]; omega) (by simp)), hr.congr ?_, d1, d2, d3⟩
  intro i hi
  have : i = 0 ∨ i = 1 ∨ i = 2 ∨ i = 3 ∨ i = 4 ∨ i = 5 := by omega
  rcases this with rfl | rfl | rfl | rfl | rfl | rfl <;> rfl

end Go.Proofs.Qxb6608983a
