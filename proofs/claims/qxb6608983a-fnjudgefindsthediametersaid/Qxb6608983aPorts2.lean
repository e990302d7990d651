import Derived.Test.Qxb6608983aPorts
namespace Go.Proofs.Qxb6608983a
open Go.RowKit
set_option linter.unusedVariables false

/-- The ports at v out of the first i links. -/
def portsOf (f g : Nat → Nat) : Nat → Nat → List (Nat × Nat)
  | 0, _ => []
  | i + 1, v => portsOf f g i v ++ (if v = f i then [(g i, i)] else []) ++ (if v = g i then [(f i, i)] else [])

theorem portsOf_length (f g : Nat → Nat) (i v : Nat) : (portsOf f g i v).length ≤ 2 * i := by
  induction i with
  | zero => simp [portsOf]
  | succ i ih =>
    simp only [portsOf, List.length_append]
    have h1 : (if v = f i then [(g i, i)] else []).length ≤ 1 := by split <;> simp
    have h2 : (if v = g i then [(f i, i)] else []).length ≤ 1 := by split <;> simp
    omega

theorem portsOf_step (f g : Nat → Nat) (i : Nat) (hne : f i ≠ g i) (X1 : Nat → List (Nat × Nat)) (h1 : X1 = fun u => if u = f i then portsOf f g i (f i) ++ [(g i, i)] else portsOf f g i u) :
    (fun u => if u = g i then X1 (g i) ++ [(f i, i)] else X1 u) = portsOf f g (i + 1) := by
  funext u
  subst h1
  have hne' : g i ≠ f i := fun e => hne e.symm
  by_cases e : u = g i
  · subst e
    simp [portsOf, hne']
  · by_cases e2 : u = f i
    · subst e2
      simp [portsOf, hne]
    · simp [portsOf, e, e2]

theorem portsSt_drew {w : World} {bP n : Nat} {S : Nat → Value} {X : Nat → List (Nat × Nat)} (h : PortsSt w bP n S X) : PortsSt w.drew bP n S X := ⟨h.row.drew, fun v hv => (h.own v hv).drew, h.apart⟩

set_option maxHeartbeats 800000 in
set_option maxRecDepth 4000 in
theorem ports_any (n m ca cb : Nat) (aa ab : Option Addr) (f g : Nat → Nat) (B : Nat) (w : World) (hn : n ≤ 4096) (hm : m ≤ 4096) (hB : B ≤ w.heap.size)
    (hA : At B w aa m (fun i => .int .i64 (f i))) (hA2 : At B w ab m (fun i => .int .i64 (g i))) (hfit : ∀ i, i < m → f i < n ∧ g i < n ∧ f i ≠ g i) :
    Calls Try.prog 12 #[.int .i64 n, .slice aa m ca, .slice ab m cb] w fun e w' => e = .returned (.slice (some ⟨w.heap.size, 0, none⟩) n n) ∧ Below w.heap.size w w' ∧
      ∃ S, PortsSt w' w.heap.size n S (portsOf f g m) := by
  have hmk := run_make_row' (P := Try.prog) 28 59 (.slice none 0 0) 24 Try.underlying28 Try.info59 rfl .i64 .i64 n (by omega) (by omega)
  go_enter Try.func12, Try.ntmps12
  go_wp2
  go_loopg [8] m (fun k i wr => ∃ j : Nat, j + k = m ∧ i = .int .i64 j ∧ Below w.heap.size w wr ∧ ∃ S, PortsSt wr w.heap.size n S (portsOf f g j))
  case atStart =>
    refine ⟨0, by omega, rfl, (Below.refl _ _).alloc (Nat.le_refl _) _, fun _ => .slice none 0 0, World.rowIs_made w (.slice none 0 0) n 59, fun v hv => ?_, fun u v _ _ _ => .inl rfl⟩
    exact World.ownsRow_nil _ _ _ _
  case round =>
    obtain ⟨j, hj, rfl, hb, S, hS⟩ := hrel
    clear hmk
    by_cases hlt : j < m
    · obtain ⟨b1, o1, rfl, hb1, c1⟩ := (hA.below (hb.mono hB)).int (f := fun i => (f i : Int)) hlt
      obtain ⟨b2, o2, rfl, hb2, c2⟩ := (hA2.below (hb.mono hB)).int (f := fun i => (g i : Int)) hlt
      have c1' : wr.cell? ⟨b1, o1 + j, none⟩ = some (.int .i64 (f j)) := c1
      have c2' : wr.cell? ⟨b2, o2 + j, none⟩ = some (.int .i64 (g j)) := c2
      obtain ⟨hfa, hfb, hne⟩ := hfit j hlt
      have hl1 := portsOf_length f g j (f j)
      obtain ⟨g1, cap1, w2, hrun1, hcell1, hfr1, hbel1, hS1⟩ := ports_step hS (f j) (g j) j hfa (by omega)
      have hpre := hS.row.cell hfa
      have hfitA : (f j : Int) < (n : Int) := by omega
      have hfitB : (g j : Int) < (n : Int) := by omega
      obtain ⟨S1, hS1e⟩ : ∃ S1, S1 = (fun u => if u = f j then .slice (some ⟨g1, 0, none⟩) ((portsOf f g j (f j)).length + 1) cap1 else S u) := ⟨_, rfl⟩
      obtain ⟨X1, hX1e⟩ : ∃ X1, X1 = (fun u => if u = f j then portsOf f g j (f j) ++ [(g j, j)] else portsOf f g j u) := ⟨_, rfl⟩
      rw [← hS1e, ← hX1e] at hS1
      have hl2 : (X1 (g j)).length ≤ 1048576 := by
        have := portsOf_length f g j (g j)
        subst hX1e
        simp only
        split
        · simp; omega
        · omega
      obtain ⟨w3, hw3⟩ : ∃ w3, w3 = w2.setCell ⟨w.heap.size, f j, none⟩ (.slice (some ⟨g1, 0, none⟩) ((portsOf f g j (f j)).length + 1) cap1) := ⟨_, rfl⟩
      rw [← hw3] at hS1
      obtain ⟨g2, cap2, w4, hrun2, hcell2, hfr2, hbel2, hS2⟩ := ports_step hS1 (g j) (f j) j hfb hl2
      have hpre2 := hS1.row.cell hfb
      have hstep := portsOf_step f g j hne X1 hX1e
      rw [hstep] at hS2
      have hB2 : Below w.heap.size w w4 := (hb.trans (hbel1.trans (by rw [hw3] at hbel2; exact ((Below.refl _ _).setCell (by simp) _).trans hbel2)))
      have HW : Hid (w3 = w2.setCell ⟨w.heap.size, f j, none⟩ (.slice (some ⟨g1, 0, none⟩) ((portsOf f g j (f j)).length + 1) cap1)) := hw3
      have HS2 := (show Hid _ from hS2)
      have HL : Hid (f j ≠ g j) := hne
      clear c1 c2 hw3 hS2 hstep hX1e hS1e hne hl1 hl2 hS1 hS hA hA2
      go_upto_region 8 with (at_builtin; refine wpList_append_run rfl (.tmp 32) (.tmp 36) 59 rfl _ _ _ _ rfl rfl hrun1 ?_)
      rw [← HW.out]
      go_wp2_with (at_builtin; refine wpList_append_run rfl (.tmp 44) (.tmp 48) 59 rfl _ _ _ _ rfl rfl hrun2 ?_)
      go_roundg (gk - 1)
      case measure => omega
      case rel => exact ⟨j + 1, by omega, by go_num, hB2.setCell (Nat.le_refl _) _, _, HS2.out⟩
    · go_wp2
      go_ret
      obtain rfl : j = m := by omega
      exact ⟨rfl, hb, S, hS⟩

end Go.Proofs.Qxb6608983a
