import Derived.Test.Qxb6608983aAp
namespace Go.Proofs.Qxb6608983a
open Go.RowKit
set_option linter.unusedVariables false
set_option linter.unusedSimpArgs false

/-- W is the widest among those pairs that come before (x, y). -/
structure Cd (n r : Nat) (δ : Nat → Nat → Int) (x y : Nat) (W : Int) : Prop where
  nn : 0 ≤ W
  le : ∀ p u, p < n → u < n → (p < x ∨ (p = x ∧ u < y)) → 0 ≤ δ r p → 0 ≤ δ r u → δ p u ≤ W
  is : W = 0 ∨ ∃ p u, p < n ∧ u < n ∧ 0 ≤ δ r p ∧ 0 ≤ δ r u ∧ W = δ p u

theorem Cd.skipRow {n r : Nat} {δ : Nat → Nat → Int} {x : Nat} {W : Int} (h : Cd n r δ x 0 W) (h0 : δ r x < 0) : Cd n r δ (x + 1) 0 W := by
  refine ⟨h.nn, ?_, h.is⟩
  intro p u hp hu hor hp0 hu0
  by_cases e : p = x
  · subst e; omega
  · exact h.le p u hp hu (by omega) hp0 hu0
theorem Cd.skip {n r : Nat} {δ : Nat → Nat → Int} {x y : Nat} {W : Int} (h : Cd n r δ x y W) (h0 : δ r y < 0 ∨ δ x y ≤ W) : Cd n r δ x (y + 1) W := by
  refine ⟨h.nn, ?_, h.is⟩
  intro p u hp hu hor hp0 hu0
  by_cases e : p = x ∧ u = y
  · obtain ⟨rfl, rfl⟩ := e
    rcases h0 with h0 | h0 <;> omega
  · exact h.le p u hp hu (by omega) hp0 hu0
theorem Cd.raise {n r : Nat} {δ : Nat → Nat → Int} {x y : Nat} {W : Int} (h : Cd n r δ x y W) (hx : x < n) (hy : y < n) (hx0 : 0 ≤ δ r x) (hy0 : 0 ≤ δ r y) (h1 : W < δ x y) : Cd n r δ x (y + 1) (δ x y) := by
  have := h.nn
  refine ⟨by omega, ?_, .inr ⟨x, y, hx, hy, hx0, hy0, rfl⟩⟩
  intro p u hp hu hor hp0 hu0
  by_cases e : p = x ∧ u = y
  · obtain ⟨rfl, rfl⟩ := e; omega
  · have := h.le p u hp hu (by omega) hp0 hu0; omega
theorem Cd.nextRow {n r : Nat} {δ : Nat → Nat → Int} {x : Nat} {W : Int} (h : Cd n r δ x n W) : Cd n r δ (x + 1) 0 W :=
  ⟨h.nn, fun p u hp hu hor => h.le p u hp hu (by omega), h.is⟩

set_option maxHeartbeats 1000000 in
set_option maxRecDepth 8000 in
theorem compDia_any (n r bd : Nat) (D : Nat → Int) (δ : Nat → Nat → Int) (w : World) (hn : n ≤ 256) (hr : r < n) (hD : w.rowIs bd 3 (n * n) (fun x => .int .i64 (D x))) (hδ : ∀ i j, i < n → j < n → D (i * n + j) = δ i j) :
    Calls Try.prog 26 #[.int .i64 (n : Nat), .int .i64 (r : Nat), .slice (some ⟨bd, 0, none⟩) (n * n) (n * n)] w fun e w' => ∃ W, e = .returned (.int .i64 W) ∧ w = w' ∧ Cd n r δ n 0 W := by
  have hMle : n * n ≤ 65536 := Nat.mul_le_mul hn hn
  have hlt2 : ∀ i j, i < n → j < n → i * n + j < n * n := fun i j hi hj => flat_lt hi hj
  obtain ⟨M, hM⟩ : ∃ M, M = n * n := ⟨_, rfl⟩
  rw [← hM] at hMle hlt2 hD ⊢
  clear hM
  obtain ⟨R, hR⟩ : ∃ R, R = r * n := ⟨_, rfl⟩
  have hRi := mul_cast hR
  have hcr : ∀ v, v < n → w.cell? ⟨bd, R + v, none⟩ = some (.int .i64 (δ r v)) ∧ R + v < M := by
    intro v hv
    have ix := hlt2 r v hr hv
    have := hD.cell ix
    rw [hδ r v hr hv, ← hR] at this
    rw [← hR] at ix
    exact ⟨this, ix⟩
  have HCR := (show Hid _ from hcr)
  have HDD := (show Hid _ from hδ)
  clear hR hcr hδ
  have hC0 : Cd n r δ 0 0 0 := ⟨by omega, fun p u hp hu hor => by omega, .inl rfl⟩
  go_enter Try.func26, Try.ntmps26
  go_wp2
  go_loopg [7, 8] n (fun gg wv iv wr => ∃ (u : Nat) (W : Int), u + gg = n ∧ iv = .int .i64 u ∧ wv = .int .i64 W ∧ Cd n r δ u 0 W ∧ w = wr)
  case atStart => exact ⟨0, 0, by omega, rfl, rfl, hC0, rfl⟩
  case round =>
    clear hC0
    obtain ⟨u, W, hu, rfl, rfl, hC, rfl⟩ := hrel
    by_cases hun : u < n
    · have hun' : (u : Int) < (n : Int) := by omega
      obtain ⟨cu, ix⟩ := HCR.out u hun
      have ix' : (R : Int) + (u : Int) < (M : Int) := by omega
      have hsk := hC.skipRow
      obtain ⟨x, hx⟩ : ∃ x, x = δ r u := ⟨_, rfl⟩
      have HX := (show Hid _ from hx)
      rw [← hx] at cu hsk
      clear hx
      by_cases hx0 : x < 0
      · have hC2 := hsk hx0
        clear hsk
        go_wp2
        go_roundg (n - (u + 1))
        case measure => omega
        case rel => exact ⟨u + 1, W, by omega, by go_num, rfl, hC2, rfl⟩
      · clear hsk
        go_wp2
        go_loopg [7, 9] n (fun gg wv iv wr => ∃ (v : Nat) (W : Int), v + gg = n ∧ iv = .int .i64 v ∧ wv = .int .i64 W ∧ Cd n r δ u v W ∧ w = wr)
        case atStart => exact ⟨0, W, by omega, rfl, rfl, hC, rfl⟩
        case round =>
          clear hC
          obtain ⟨v, W, hv, rfl, rfl, hC, rfl⟩ := hrel
          by_cases hvn : v < n
          · have hvn' : (v : Int) < (n : Int) := by omega
            obtain ⟨cv, jx⟩ := HCR.out v hvn
            have kx := hlt2 u v hun hvn
            have cz := hD.cell kx
            rw [HDD.out u v hun hvn] at cz
            have hsk := hC.skip
            have hra := hC.raise hun hvn (by rw [← HX.out]; omega)
            obtain ⟨I, hI⟩ : ∃ I, I = u * n := ⟨_, rfl⟩
            have hIi := mul_cast hI
            rw [← hI] at kx cz
            have jx' : (R : Int) + (v : Int) < (M : Int) := by omega
            have kx' : (I : Int) + (v : Int) < (M : Int) := by omega
            obtain ⟨y, hy⟩ : ∃ y, y = δ r v := ⟨_, rfl⟩
            obtain ⟨z, hz⟩ : ∃ z, z = δ u v := ⟨_, rfl⟩
            rw [← hy] at cv hsk hra
            rw [← hz] at cz hsk hra
            clear hI hy hz
            by_cases hy0 : 0 ≤ y
            · have d0 : decide (0 ≤ y) = true := decide_eq_true hy0
              by_cases hzW : W < z
              · have d1 : decide (W < z) = true := decide_eq_true hzW
                have hC2 := hra hy0 hzW
                clear hra hsk
                go_wp2
                go_roundg (n - (v + 1))
                case measure => omega
                case rel => exact ⟨v + 1, z, by omega, by go_num, rfl, hC2, rfl⟩
              · have d1 : decide (W < z) = false := decide_eq_false hzW
                have hC2 := hsk (.inr (by omega))
                clear hra hsk
                go_wp2
                go_roundg (n - (v + 1))
                case measure => omega
                case rel => exact ⟨v + 1, W, by omega, by go_num, rfl, hC2, rfl⟩
            · have d0 : decide (0 ≤ y) = false := decide_eq_false hy0
              have hC2 := hsk (.inl (by omega))
              clear hra hsk
              go_wp2
              go_roundg (n - (v + 1))
              case measure => omega
              case rel => exact ⟨v + 1, W, by omega, by go_num, rfl, hC2, rfl⟩
          · have ev : v = n := by omega
            have hC1 : Cd n r δ u n W := by rw [ev] at hC; exact hC
            have hC2 := hC1.nextRow
            clear hC hC1 ev
            go_wp2
            go_roundg (n - (u + 1))
            case measure => omega
            case rel => exact ⟨u + 1, W, by omega, by go_num, rfl, hC2, rfl⟩
    · have eu : u = n := by omega
      have hC2 : Cd n r δ n 0 W := by rw [eu] at hC; exact hC
      clear eu
      go_wp2
      go_ret
      exact ⟨W, rfl, rfl, hC2⟩

end Go.Proofs.Qxb6608983a
