import Derived.Test.Qxb6608983aOrd
import Derived.Test.Qxb6608983aAm
namespace Go.Proofs.Qxb6608983a
open Go.RowKit
set_option linter.unusedVariables false
set_option linter.unusedSimpArgs false

theorem follows' : Try.prog.follows .mixedOrders = true := by kernel_rfl

def isSlice (v : Value) : Prop := ∃ a n c, v = .slice a n c

theorem makes_row {P : Program} {ops : Array Oper} {S : World → Prop} {i : Nat} {a : Act} (o : Oper) (ho : ops[i]? = some o) (hg : o.guard = none) (t : TypeId) (x : Nat) (hop : o.op = .makeSlice t (.tmp x) (.tmp x)) (n : Nat) (hx : a.eval (.tmp x) = .int .i64 (n : Int)) {F : World → Obj}
    (hrun : ∀ w : World, (Instr.makeSlice t (.int .i64 (n : Int)) (.int .i64 (n : Int))).run P w = .ok (.slice (some ⟨w.heap.size, 0, none⟩) n n) (w.alloc (F w))) (hS : ∀ (o : Obj) (w : World), S w → S (w.alloc o)) : Makes P ops S isSlice i a := by
  refine ⟨o, ho, hg, (by rw [hop]; intro cs b h; cases h), fun w hw => ⟨.slice (some ⟨w.heap.size, 0, none⟩) n n, w.alloc (F w), ?_, ⟨_, _, _, rfl⟩, hS (F w) w hw⟩⟩
  simp [execOp, hop, hx, hrun]

theorem step_run {P : Program} {ops : Array Oper} {Q : Exit → Act → World → Prop} {i : Nat} {a : Act} {w : World} {K : Act → World → Prop} (o : Oper) (ho : ops[i]? = some o) (hg : o.guard = none) (v : Value) (w' : World) (hr : (execOp a.eval o).run P w = .ok (.value v) w')
    (hK : K (a.put o.dst v) w') : wpOp P ops Q i K a w := by
  have hwant : Region.wanted o (yielded ops a.tmps) = true := by simp [Region.wanted, hg]
  unfold wpOp
  simp only [ho, hwant, if_true]
  refine .inl ?_
  unfold Oper.wp
  rw [hr]
  exact hK

set_option maxHeartbeats 1000000 in
set_option maxRecDepth 8000 in
theorem newSearchTree_any (p : Nat) (al : Option Addr) (n ml cl : Nat) (aP aF aC : Option Addr) (cP nF cF m cC : Nat) (w : World) (hn : n ≤ 4096) (hml : ml ≤ 4096)
    (h0 : w.cell? ⟨p, 0, none⟩ = some (.slice aP n cP)) (h1 : w.cell? ⟨p, 1, none⟩ = some (.slice aF nF cF)) (h2 : w.cell? ⟨p, 2, none⟩ = some (.slice aC m cC)) (hp : p < w.heap.size) :
    Calls Try.prog 43 #[.pointer (some ⟨p, 0, none⟩), .slice al ml cl] w fun e w' => ∃ pt bD, e = .returned (.pointer (some ⟨pt, 0, none⟩)) ∧ w.heap.size ≤ pt ∧ pt < bD ∧ Same [] w w' ∧
      (∃ f, w'.rowIs pt 78 21 f ∧ f 0 = .slice aP n cP ∧ f 1 = .slice aF nF cF ∧ f 2 = .slice aC m cC ∧ f 3 = .slice (some ⟨bD, 0, none⟩) n n ∧ f 4 = .slice (some ⟨bD + 1, 0, none⟩) n n ∧ f 5 = .slice (some ⟨bD + 2, 0, none⟩) 0 n ∧ f 14 = .slice none 0 0) ∧
      w'.rowIs bD 3 n (fun _ => .int .i64 0) ∧ w'.rowIs (bD + 1) 3 n (fun _ => .int .i64 0) ∧ w'.rowIs (bD + 2) 3 n (fun _ => .int .i64 0) := by
  go_enter Try.func43, Try.ntmps43
  go_upto_region 2 with fail
  go_cut [6] (fun v wx => ∃ pt f, v = .pointer (some ⟨pt, 0, none⟩) ∧ w.heap.size ≤ pt ∧ Same [] w wx ∧ wx.rowIs pt 78 21 f ∧ f 0 = .slice aP n cP ∧ f 1 = .slice aF nF cF ∧ f 2 = .slice aC m cC ∧ f 14 = .slice none 0 0)
  case first =>
    refine wp_region_held (S := fun wx => Same [] w wx ∧ wx.cell? ⟨p, 0, none⟩ = some (.slice aP n cP) ∧ wx.cell? ⟨p, 1, none⟩ = some (.slice aF nF cF) ∧ wx.cell? ⟨p, 2, none⟩ = some (.slice aC m cC)) follows' ?_
    have hS0 : Same [] w { w with drawn := w.drawn + 1 } ∧ ({ w with drawn := w.drawn + 1 } : World).cell? ⟨p, 0, none⟩ = some (.slice aP n cP) ∧ ({ w with drawn := w.drawn + 1 } : World).cell? ⟨p, 1, none⟩ = some (.slice aF nF cF) ∧ ({ w with drawn := w.drawn + 1 } : World).cell? ⟨p, 2, none⟩ = some (.slice aC m cC) := ⟨⟨rfl, rfl, rfl, Nat.le_refl _, fun _ _ _ => rfl⟩, h0, h1, h2⟩
    refine wpAnyH_take (i := 0) (v := ?_) rfl (by kernel_rfl) (by kernel_rfl) (by kernel_rfl) (fun _ _ _ h => h) (Or.inl ⟨by rfl, ?_⟩) hS0 ?_
    rotate_left
    · intro wx hSx
      obtain ⟨-, g0, g1, g2⟩ := hSx
      go_simp
      try rfl
    simp only [List.getElem_toArray, List.getElem_cons_succ, List.getElem_cons_zero, Act.put, List.setIfInBounds_toArray, List.set_cons_zero, List.set_cons_succ]
    refine wpAnyH_take (i := 1) (v := ?_) rfl (by kernel_rfl) (by kernel_rfl) (by kernel_rfl) (fun _ _ _ h => h) (Or.inl ⟨by rfl, ?_⟩) hS0 ?_
    rotate_left
    · intro wx hSx
      obtain ⟨-, g0, g1, g2⟩ := hSx
      go_simp
      try rfl
    simp only [List.getElem_toArray, List.getElem_cons_succ, List.getElem_cons_zero, Act.put, List.setIfInBounds_toArray, List.set_cons_zero, List.set_cons_succ]
    refine wpAnyH_take (i := 2) (v := ?_) rfl (by kernel_rfl) (by kernel_rfl) (by kernel_rfl) (fun _ _ _ h => h) (Or.inl ⟨by rfl, ?_⟩) hS0 ?_
    rotate_left
    · intro wx hSx
      obtain ⟨-, g0, g1, g2⟩ := hSx
      go_simp
      try rfl
    simp only [List.getElem_toArray, List.getElem_cons_succ, List.getElem_cons_zero, Act.put, List.setIfInBounds_toArray, List.set_cons_zero, List.set_cons_succ]
    refine wpAnyH_take (i := 3) (v := ?_) rfl (by kernel_rfl) (by kernel_rfl) (by kernel_rfl) (fun _ _ _ h => h) (Or.inl ⟨by rfl, ?_⟩) hS0 ?_
    rotate_left
    · intro wx hSx
      obtain ⟨-, g0, g1, g2⟩ := hSx
      go_simp
      try rfl
    simp only [List.getElem_toArray, List.getElem_cons_succ, List.getElem_cons_zero, Act.put, List.setIfInBounds_toArray, List.set_cons_zero, List.set_cons_succ]
    refine wpAnyH_take (i := 4) (v := ?_) rfl (by kernel_rfl) (by kernel_rfl) (by kernel_rfl) (fun _ _ _ h => h) (Or.inl ⟨by rfl, ?_⟩) hS0 ?_
    rotate_left
    · intro wx hSx
      obtain ⟨-, g0, g1, g2⟩ := hSx
      go_simp
      try rfl
    simp only [List.getElem_toArray, List.getElem_cons_succ, List.getElem_cons_zero, Act.put, List.setIfInBounds_toArray, List.set_cons_zero, List.set_cons_succ]
    refine wpAnyH_take (i := 5) (v := ?_) rfl (by kernel_rfl) (by kernel_rfl) (by kernel_rfl) (fun _ _ _ h => h) (Or.inl ⟨by rfl, ?_⟩) hS0 ?_
    rotate_left
    · intro wx hSx
      obtain ⟨-, g0, g1, g2⟩ := hSx
      go_simp
      try rfl
    simp only [List.getElem_toArray, List.getElem_cons_succ, List.getElem_cons_zero, Act.put, List.setIfInBounds_toArray, List.set_cons_zero, List.set_cons_succ]
    refine wpAnyH_take (i := 6) (v := ?_) rfl (by kernel_rfl) (by kernel_rfl) (by kernel_rfl) (fun _ _ _ h => h) (Or.inl ⟨by rfl, ?_⟩) hS0 ?_
    rotate_left
    · intro wx hSx
      obtain ⟨-, g0, g1, g2⟩ := hSx
      go_simp
      try rfl
    simp only [List.getElem_toArray, List.getElem_cons_succ, List.getElem_cons_zero, Act.put, List.setIfInBounds_toArray, List.set_cons_zero, List.set_cons_succ]
    refine wpAnyH_take (i := 7) (v := ?_) rfl (by kernel_rfl) (by kernel_rfl) (by kernel_rfl) (fun _ _ _ h => h) (Or.inl ⟨by rfl, ?_⟩) hS0 ?_
    rotate_left
    · intro wx hSx
      obtain ⟨-, g0, g1, g2⟩ := hSx
      go_simp
      try rfl
    simp only [List.getElem_toArray, List.getElem_cons_succ, List.getElem_cons_zero, Act.put, List.setIfInBounds_toArray, List.set_cons_zero, List.set_cons_succ]
    refine wpAnyH_take (i := 8) (v := ?_) rfl (by kernel_rfl) (by kernel_rfl) (by kernel_rfl) (fun _ _ _ h => h) (Or.inl ⟨by rfl, ?_⟩) hS0 ?_
    rotate_left
    · intro wx hSx
      obtain ⟨-, g0, g1, g2⟩ := hSx
      go_simp
      try rfl
    simp only [List.getElem_toArray, List.getElem_cons_succ, List.getElem_cons_zero, Act.put, List.setIfInBounds_toArray, List.set_cons_zero, List.set_cons_succ]
    refine wpAnyH_take (i := 9) (v := ?_) rfl (by kernel_rfl) (by kernel_rfl) (by kernel_rfl) (fun _ _ _ h => h) (Or.inl ⟨by rfl, ?_⟩) hS0 ?_
    rotate_left
    · intro wx hSx
      obtain ⟨-, g0, g1, g2⟩ := hSx
      go_simp
      try rfl
    simp only [List.getElem_toArray, List.getElem_cons_succ, List.getElem_cons_zero, Act.put, List.setIfInBounds_toArray, List.set_cons_zero, List.set_cons_succ]
    refine wpAnyH_take (i := 10) (v := ?_) rfl (by kernel_rfl) (by kernel_rfl) (by kernel_rfl) (fun _ _ _ h => h) (Or.inl ⟨by rfl, ?_⟩) hS0 ?_
    rotate_left
    · intro wx hSx
      obtain ⟨-, g0, g1, g2⟩ := hSx
      go_simp
      try rfl
    simp only [List.getElem_toArray, List.getElem_cons_succ, List.getElem_cons_zero, Act.put, List.setIfInBounds_toArray, List.set_cons_zero, List.set_cons_succ]
    refine wpAnyH_take (i := 11) (v := ?_) rfl (by kernel_rfl) (by kernel_rfl) (by kernel_rfl) (fun _ _ _ h => h) (Or.inl ⟨by rfl, ?_⟩) hS0 ?_
    rotate_left
    · intro wx hSx
      obtain ⟨-, g0, g1, g2⟩ := hSx
      go_simp
      try rfl
    simp only [List.getElem_toArray, List.getElem_cons_succ, List.getElem_cons_zero, Act.put, List.setIfInBounds_toArray, List.set_cons_zero, List.set_cons_succ]
    refine wpAnyH_take (i := 12) (v := ?_) rfl (by kernel_rfl) (by kernel_rfl) (by kernel_rfl) (fun _ _ _ h => h) (Or.inl ⟨by rfl, ?_⟩) hS0 ?_
    rotate_left
    · intro wx hSx
      obtain ⟨-, g0, g1, g2⟩ := hSx
      go_simp
      try rfl
    simp only [List.getElem_toArray, List.getElem_cons_succ, List.getElem_cons_zero, Act.put, List.setIfInBounds_toArray, List.set_cons_zero, List.set_cons_succ]
    refine wpAnyH_take (i := 13) (v := ?_) rfl (by kernel_rfl) (by kernel_rfl) (by kernel_rfl) (fun _ _ _ h => h) (Or.inl ⟨by rfl, ?_⟩) hS0 ?_
    rotate_left
    · intro wx hSx
      obtain ⟨-, g0, g1, g2⟩ := hSx
      go_simp
      try rfl
    simp only [List.getElem_toArray, List.getElem_cons_succ, List.getElem_cons_zero, Act.put, List.setIfInBounds_toArray, List.set_cons_zero, List.set_cons_succ]
    refine wpAnyH_take (i := 14) (v := ?_) rfl (by kernel_rfl) (by kernel_rfl) (by kernel_rfl) (fun _ _ _ h => h) (Or.inl ⟨by rfl, ?_⟩) hS0 ?_
    rotate_left
    · intro wx hSx
      obtain ⟨-, g0, g1, g2⟩ := hSx
      go_simp
      try rfl
    simp only [List.getElem_toArray, List.getElem_cons_succ, List.getElem_cons_zero, Act.put, List.setIfInBounds_toArray, List.set_cons_zero, List.set_cons_succ]
    refine wpAnyH_take (i := 16) (v := ?_) rfl (by kernel_rfl) (by kernel_rfl) (by kernel_rfl) (fun _ _ _ h => h) (Or.inl ⟨by rfl, ?_⟩) hS0 ?_
    rotate_left
    · intro wx hSx
      obtain ⟨-, g0, g1, g2⟩ := hSx
      go_simp
      try rfl
    simp only [List.getElem_toArray, List.getElem_cons_succ, List.getElem_cons_zero, Act.put, List.setIfInBounds_toArray, List.set_cons_zero, List.set_cons_succ]
    refine wpAnyH_take (i := 18) (v := ?_) rfl (by kernel_rfl) (by kernel_rfl) (by kernel_rfl) (fun _ _ _ h => h) (Or.inl ⟨by rfl, ?_⟩) hS0 ?_
    rotate_left
    · intro wx hSx
      obtain ⟨-, g0, g1, g2⟩ := hSx
      go_simp
      try rfl
    simp only [List.getElem_toArray, List.getElem_cons_succ, List.getElem_cons_zero, Act.put, List.setIfInBounds_toArray, List.set_cons_zero, List.set_cons_succ]
    refine wpAnyH_take (i := 19) (v := ?_) rfl (by kernel_rfl) (by kernel_rfl) (by kernel_rfl) (fun _ _ _ h => h) (Or.inl ⟨by rfl, ?_⟩) hS0 ?_
    rotate_left
    · intro wx hSx
      obtain ⟨-, g0, g1, g2⟩ := hSx
      go_simp
      try rfl
    simp only [List.getElem_toArray, List.getElem_cons_succ, List.getElem_cons_zero, Act.put, List.setIfInBounds_toArray, List.set_cons_zero, List.set_cons_succ]
    refine wpAnyH_take (i := 21) (v := ?_) rfl (by kernel_rfl) (by kernel_rfl) (by kernel_rfl) (fun _ _ _ h => h) (Or.inl ⟨by rfl, ?_⟩) hS0 ?_
    rotate_left
    · intro wx hSx
      obtain ⟨-, g0, g1, g2⟩ := hSx
      go_simp
      try rfl
    simp only [List.getElem_toArray, List.getElem_cons_succ, List.getElem_cons_zero, Act.put, List.setIfInBounds_toArray, List.set_cons_zero, List.set_cons_succ]
    refine wpAnyH_take (i := 22) (v := ?_) rfl (by kernel_rfl) (by kernel_rfl) (by kernel_rfl) (fun _ _ _ h => h) (Or.inl ⟨by rfl, ?_⟩) hS0 ?_
    rotate_left
    · intro wx hSx
      obtain ⟨-, g0, g1, g2⟩ := hSx
      go_simp
      try rfl
    simp only [List.getElem_toArray, List.getElem_cons_succ, List.getElem_cons_zero, Act.put, List.setIfInBounds_toArray, List.set_cons_zero, List.set_cons_succ]
    refine wpAnyH_take (i := 23) (v := ?_) rfl (by kernel_rfl) (by kernel_rfl) (by kernel_rfl) (fun _ _ _ h => h) (Or.inl ⟨by rfl, ?_⟩) hS0 ?_
    rotate_left
    · intro wx hSx
      obtain ⟨-, g0, g1, g2⟩ := hSx
      go_simp
      try rfl
    simp only [List.getElem_toArray, List.getElem_cons_succ, List.getElem_cons_zero, Act.put, List.setIfInBounds_toArray, List.set_cons_zero, List.set_cons_succ]
    refine wpAnyH_take (i := 25) (v := ?_) rfl (by kernel_rfl) (by kernel_rfl) (by kernel_rfl) (fun _ _ _ h => h) (Or.inl ⟨by rfl, ?_⟩) hS0 ?_
    rotate_left
    · intro wx hSx
      obtain ⟨-, g0, g1, g2⟩ := hSx
      go_simp
      try rfl
    simp only [List.getElem_toArray, List.getElem_cons_succ, List.getElem_cons_zero, Act.put, List.setIfInBounds_toArray, List.set_cons_zero, List.set_cons_succ]
    refine wpAnyH_take (i := 27) (v := ?_) rfl (by kernel_rfl) (by kernel_rfl) (by kernel_rfl) (fun _ _ _ h => h) (Or.inl ⟨by rfl, ?_⟩) hS0 ?_
    rotate_left
    · intro wx hSx
      obtain ⟨-, g0, g1, g2⟩ := hSx
      go_simp
      try rfl
    simp only [List.getElem_toArray, List.getElem_cons_succ, List.getElem_cons_zero, Act.put, List.setIfInBounds_toArray, List.set_cons_zero, List.set_cons_succ]
    refine wpAnyH_take (i := 29) (v := ?_) rfl (by kernel_rfl) (by kernel_rfl) (by kernel_rfl) (fun _ _ _ h => h) (Or.inl ⟨by rfl, ?_⟩) hS0 ?_
    rotate_left
    · intro wx hSx
      obtain ⟨-, g0, g1, g2⟩ := hSx
      go_simp
      try rfl
    simp only [List.getElem_toArray, List.getElem_cons_succ, List.getElem_cons_zero, Act.put, List.setIfInBounds_toArray, List.set_cons_zero, List.set_cons_succ]
    refine wpAnyH_take (i := 31) (v := ?_) rfl (by kernel_rfl) (by kernel_rfl) (by kernel_rfl) (fun _ _ _ h => h) (Or.inl ⟨by rfl, ?_⟩) hS0 ?_
    rotate_left
    · intro wx hSx
      obtain ⟨-, g0, g1, g2⟩ := hSx
      go_simp
      try rfl
    simp only [List.getElem_toArray, List.getElem_cons_succ, List.getElem_cons_zero, Act.put, List.setIfInBounds_toArray, List.set_cons_zero, List.set_cons_succ]
    refine wpAnyH_take (i := 33) (v := ?_) rfl (by kernel_rfl) (by kernel_rfl) (by kernel_rfl) (fun _ _ _ h => h) (Or.inl ⟨by rfl, ?_⟩) hS0 ?_
    rotate_left
    · intro wx hSx
      obtain ⟨-, g0, g1, g2⟩ := hSx
      go_simp
      try rfl
    simp only [List.getElem_toArray, List.getElem_cons_succ, List.getElem_cons_zero, Act.put, List.setIfInBounds_toArray, List.set_cons_zero, List.set_cons_succ]
    clear hS0
    have hS0 : Same [] w { w with drawn := w.drawn + 1 } ∧ ({ w with drawn := w.drawn + 1 } : World).cell? ⟨p, 0, none⟩ = some (.slice aP n cP) ∧ ({ w with drawn := w.drawn + 1 } : World).cell? ⟨p, 1, none⟩ = some (.slice aF nF cF) ∧ ({ w with drawn := w.drawn + 1 } : World).cell? ⟨p, 2, none⟩ = some (.slice aC m cC) := ⟨⟨rfl, rfl, rfl, Nat.le_refl _, fun _ _ _ => rfl⟩, h0, h1, h2⟩
    have hmk := run_make_row' (P := Try.prog) 22 3 (.int .i64 0) 8 Try.underlying22 Try.info3 rfl .i64 .i64 n (by omega) (by omega)
    have hmkl := run_make_row' (P := Try.prog) 22 3 (.int .i64 0) 8 Try.underlying22 Try.info3 rfl .i64 .i64 ml (by omega) (by omega)
    have hmkt := run_make_row' (P := Try.prog) 22 3 (.int .i64 0) 8 Try.underlying22 Try.info3 rfl .i64 .i64 (2 * n + 3) (by omega) (by omega)
    have hmkb := run_make_row' (P := Try.prog) 23 4 (.bool false) 1 Try.underlying23 Try.info4 rfl .i64 .i64 n (by omega) (by omega)
    have hSa : ∀ (o : Obj) (wx : World), (Same [] w wx ∧ wx.cell? ⟨p, 0, none⟩ = some (.slice aP n cP) ∧ wx.cell? ⟨p, 1, none⟩ = some (.slice aF nF cF) ∧ wx.cell? ⟨p, 2, none⟩ = some (.slice aC m cC)) →
        (Same [] w (wx.alloc o) ∧ (wx.alloc o).cell? ⟨p, 0, none⟩ = some (.slice aP n cP) ∧ (wx.alloc o).cell? ⟨p, 1, none⟩ = some (.slice aF nF cF) ∧ (wx.alloc o).cell? ⟨p, 2, none⟩ = some (.slice aC m cC)) := by
      rintro o wx ⟨g, g0, g1, g2⟩
      have hpx : p < wx.heap.size := Nat.lt_of_lt_of_le hp g.size
      have hq : Same [] wx (wx.alloc o) := (Same.refl _ _).alloc o
      exact ⟨g.alloc o, by rw [hq.cell (p := ⟨p, 0, none⟩) hpx (by simp)]; exact g0, by rw [hq.cell (p := ⟨p, 1, none⟩) hpx (by simp)]; exact g1, by rw [hq.cell (p := ⟨p, 2, none⟩) hpx (by simp)]; exact g2⟩
    refine any_makes' isSlice [15, 17, 20, 24, 26, 28, 30, 32, 34] 3 (by kernel_rfl) ?_ hS0 ⟨.slice none 0 0, _, _, _, rfl⟩ ?_
    · intro i hi
      simp only [List.mem_cons, List.not_mem_nil, or_false] at hi
      rcases hi with rfl | rfl | rfl | rfl | rfl | rfl | rfl | rfl | rfl
      · exact makes_row _ rfl rfl 22 26 rfl n (by simp [Act.eval]) hmk hSa
      · exact makes_row _ rfl rfl 22 28 rfl n (by simp [Act.eval]) hmk hSa
      · exact makes_row _ rfl rfl 22 31 rfl ml (by simp [Act.eval]) hmkl hSa
      · exact makes_row _ rfl rfl 22 35 rfl (2 * n + 3) (by simp [Act.eval]; rw [IntKind.wrap_i64, IntKind.wrap_i64]; omega) hmkt hSa
      · exact makes_row _ rfl rfl 22 37 rfl n (by simp [Act.eval]) hmk hSa
      · exact makes_row _ rfl rfl 22 39 rfl n (by simp [Act.eval]) hmk hSa
      · exact makes_row _ rfl rfl 22 41 rfl n (by simp [Act.eval]) hmk hSa
      · exact makes_row _ rfl rfl 23 43 rfl n (by simp [Act.eval]) hmkb hSa
      · exact makes_row _ rfl rfl 23 45 rfl n (by simp [Act.eval]) hmkb hSa
    · intro vs w' hvs hS'
      obtain ⟨x1, y1, z1, e1⟩ := hvs 15
      obtain ⟨x2, y2, z2, e2⟩ := hvs 17
      obtain ⟨x3, y3, z3, e3⟩ := hvs 20
      obtain ⟨x4, y4, z4, e4⟩ := hvs 24
      obtain ⟨x5, y5, z5, e5⟩ := hvs 26
      obtain ⟨x6, y6, z6, e6⟩ := hvs 28
      obtain ⟨x7, y7, z7, e7⟩ := hvs 30
      obtain ⟨x8, y8, z8, e8⟩ := hvs 32
      obtain ⟨x9, y9, z9, e9⟩ := hvs 34
      simp only [setAll, putAll, e1, e2, e3, e4, e5, e6, e7, e8, e9, List.getElem?_toArray, List.getElem?_cons_succ, List.getElem?_cons_zero, Option.bind_some, Act.put, List.setIfInBounds_toArray, List.set_cons_zero, List.set_cons_succ]
      clear e1 e2 e3 e4 e5 e6 e7 e8 e9 hvs hmk hmkl hmkt hmkb hS0
      refine wpAnyH_take (i := 35) (v := ?_) rfl (by kernel_rfl) (by kernel_rfl) (by kernel_rfl) (fun _ _ _ h => h) (Or.inl ⟨by rfl, ?_⟩) hS' ?_
      rotate_left
      · intro wx hSx
        clear hSx
        go_simp
        try rfl
      simp only [List.getElem_toArray, List.getElem_cons_succ, List.getElem_cons_zero, Act.put, List.setIfInBounds_toArray, List.set_cons_zero, List.set_cons_succ]
      refine wpAnyH_all (rs := [36]) (by kernel_rfl) (by simp) ?_
      intro i hi
      obtain rfl : i = 36 := by simpa using hi
      refine step_run _ rfl rfl (.pointer (some ⟨w'.heap.size, 0, none⟩)) (w'.alloc (.cells #[Value.slice aP n cP, Value.slice aF nF cF, Value.slice aC m cC, Value.slice none 0 0, Value.slice none 0 0,
            Value.slice none 0 0, Value.slice al ml cl, Value.int IntKind.i64 0, Value.bool false, Value.slice x1 y1 z1,
            Value.slice x2 y2 z2, Value.slice x3 y3 z3, Value.slice x4 y4 z4, Value.slice x5 y5 z5,
            Value.slice none 0 0, Value.slice x6 y6 z6, Value.slice none 0 0, Value.slice none 0 0,
            Value.slice x7 y7 z7, Value.slice x8 y8 z8, Value.slice x9 y9 z9] 78)) ?_ ?_
      · go_simp
      have hS2 := hSa (.cells #[Value.slice aP n cP, Value.slice aF nF cF, Value.slice aC m cC, Value.slice none 0 0, Value.slice none 0 0,
            Value.slice none 0 0, Value.slice al ml cl, Value.int IntKind.i64 0, Value.bool false, Value.slice x1 y1 z1,
            Value.slice x2 y2 z2, Value.slice x3 y3 z3, Value.slice x4 y4 z4, Value.slice x5 y5 z5,
            Value.slice none 0 0, Value.slice x6 y6 z6, Value.slice none 0 0, Value.slice none 0 0,
            Value.slice x7 y7 z7, Value.slice x8 y8 z8, Value.slice x9 y9 z9] 78) w' hS'
      refine ⟨hS2, ?_⟩
      simp only [List.getElem_toArray, List.getElem_cons_succ, List.getElem_cons_zero, Act.put, List.setIfInBounds_toArray, List.set_cons_zero, List.set_cons_succ]
      refine wpAnyH_take (i := 37) (v := ?_) rfl (by kernel_rfl) (by kernel_rfl) (by kernel_rfl) (fun _ _ _ h => h) (Or.inl ⟨by rfl, ?_⟩) hS2 ?_
      rotate_left
      · intro wx hSx
        clear hSx
        go_simp
        try rfl
      simp only [List.getElem_toArray, List.getElem_cons_succ, List.getElem_cons_zero, Act.put, List.setIfInBounds_toArray, List.set_cons_zero, List.set_cons_succ]
      refine wpAnyH_done (by kernel_rfl) ?_ _
      go_wp2
      go_meet
      case rel =>
        refine ⟨w'.heap.size, _, rfl, hS'.1.size, hS2.1, World.rowIs_alloc w' _ 78 (fun i => [Value.slice aP n cP, Value.slice aF nF cF, Value.slice aC m cC, Value.slice none 0 0, Value.slice none 0 0,
            Value.slice none 0 0, Value.slice al ml cl, Value.int IntKind.i64 0, Value.bool false, Value.slice x1 y1 z1,
            Value.slice x2 y2 z2, Value.slice x3 y3 z3, Value.slice x4 y4 z4, Value.slice x5 y5 z5,
            Value.slice none 0 0, Value.slice x6 y6 z6, Value.slice none 0 0, Value.slice none 0 0,
            Value.slice x7 y7 z7, Value.slice x8 y8 z8, Value.slice x9 y9 z9].getD i (.bool false)) ?_, rfl, rfl, rfl, rfl⟩
        intro i hi
        simp at hi
        simp [List.getD, hi]
  case rest =>
    obtain ⟨pt, f, rfl, hpt, hsm, hr, f0, f1, f2, f14⟩ := hcut
    have hal := allocate_any pt 78 21 n cP aP f wc hn hr (by omega) f0
    go_wp2_with fail
    refine hal.mono ?_
    rintro e w2 ⟨rfl, hs2, hr2, hd1, hd2, hd3⟩
    clear hal
    have hlt := hr.lt
    have hsz := hsm.size
    go_wp2
    go_ret
    refine ⟨pt, wc.heap.size, rfl, hpt, hlt, hsm.trans' hs2 (by intro y hy; simp at hy; subst hy; exact .inr (by omega)), ⟨_, hr2, by simpa using f0, by simpa using f1, by simpa using f2, by simp, by simp, by simp, by simpa using f14⟩, hd1, hd2, hd3⟩

end Go.Proofs.Qxb6608983a
