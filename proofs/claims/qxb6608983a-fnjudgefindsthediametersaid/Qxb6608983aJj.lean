import Derived.Test.Qxb6608983aFf
namespace Go.Proofs.Qxb6608983a
open Go.RowKit
set_option linter.unusedVariables false
set_option linter.unusedSimpArgs false

theorem run_max (ats : Array TypeId) (ty : TypeId) (a b : Int) (w : World) : (Builtin.max_ ats ty #[.int .i64 a, .int .i64 b]).run Try.prog w = .ok (.int .i64 (max a b)) w := by
  have h : (if b > a then b else a) = max a b := by split <;> omega
  simp only [Builtin.max_, List.foldlM, Builtin.max2, h]
  rfl
theorem run_min (ats : Array TypeId) (ty : TypeId) (a b : Int) (w : World) : (Builtin.min_ ats ty #[.int .i64 a, .int .i64 b]).run Try.prog w = .ok (.int .i64 (min a b)) w := by
  have h : (if b < a then b else a) = min a b := by split <;> omega
  simp only [Builtin.min_, List.foldlM, Builtin.min2, h]
  rfl

/-- The search tree, as the judge reads it. -/
structure TrAt (n pt bT bQ q r e : Nat) (D : Nat → Int) (w : World) : Prop where
  c3 : w.cell? ⟨pt, 3, none⟩ = some (.slice (some ⟨bT, 0, none⟩) n n)
  c5 : w.cell? ⟨pt, 5, none⟩ = some (.slice (some ⟨bQ, 0, none⟩) q n)
  c7 : w.cell? ⟨pt, 7, none⟩ = some (.int .i64 (e : Nat))
  row : w.rowIs bT 3 n (fun i => .int .i64 (D i))
  q0 : w.cell? ⟨bQ, 0, none⟩ = some (.int .i64 (r : Nat))
  lt : pt < w.heap.size ∧ bQ < w.heap.size

theorem TrAt.same {n pt bT bQ q r e : Nat} {D : Nat → Int} {w w' : World} (h : TrAt n pt bT bQ q r e D w) {X : List Nat} (hs : Same X w w') (h1 : pt ∉ X) (h2 : bT ∉ X) (h3 : bQ ∉ X) : TrAt n pt bT bQ q r e D w' :=
  ⟨gcell hs h.lt.1 h1 h.c3, gcell hs h.lt.1 h1 h.c5, gcell hs h.lt.1 h1 h.c7, hs.rowIs h.row h2, gcell hs h.lt.2 h3 h.q0, Nat.lt_of_lt_of_le h.lt.1 hs.size, Nat.lt_of_lt_of_le h.lt.2 hs.size⟩

/-- The survey, as the judge reads it. -/
structure SuAt (p n ps bU bF bO : Nat) (w : World) : Prop where
  c0 : w.cell? ⟨ps, 0, none⟩ = some (.pointer (some ⟨p, 0, none⟩))
  c8 : w.cell? ⟨ps, 8, none⟩ = some (.slice (some ⟨bU, 0, none⟩) n n)
  c9 : w.cell? ⟨ps, 9, none⟩ = some (.slice (some ⟨bF, 0, none⟩) n n)
  c10 : w.cell? ⟨ps, 10, none⟩ = some (.slice (some ⟨bO, 0, none⟩) (n + 2) (n + 2))
  lt : ps < w.heap.size
  row : ∃ f, w.rowIs ps 68 17 f

theorem SuAt.same {p n ps bU bF bO : Nat} {w w' : World} (h : SuAt p n ps bU bF bO w) {X : List Nat} (hs : Same X w w') (h1 : ps ∉ X) : SuAt p n ps bU bF bO w' :=
  ⟨gcell hs h.lt h1 h.c0, gcell hs h.lt h1 h.c8, gcell hs h.lt h1 h.c9, gcell hs h.lt h1 h.c10, Nat.lt_of_lt_of_le h.lt hs.size, h.row.elim fun f hf => ⟨f, hs.rowIs hf h1⟩⟩

/-- The blocks that stand apart from one another. -/
structure Apart (k : Wk) (ps pt bT bQ bU bF bO : Nat) : Prop where
  x1 : ∀ x ∈ k.X, x ≠ ps ∧ x ≠ pt ∧ x ≠ bT ∧ x ≠ bQ ∧ x ≠ bU ∧ x ≠ bF ∧ x ≠ bO
  s : ps ≠ bU ∧ ps ≠ bF ∧ ps ≠ bO
  t : pt ≠ bU ∧ pt ≠ bF ∧ pt ≠ bO ∧ pt ≠ ps
  d : bT ≠ bU ∧ bT ≠ bF ∧ bT ≠ bO ∧ bT ≠ ps
  q : bQ ≠ bU ∧ bQ ≠ bF ∧ bQ ≠ bO ∧ bQ ≠ ps
  u : bU ≠ bF ∧ bU ≠ bO ∧ bF ≠ bO

def Wk.Y (k : Wk) (bU bF bO : Nat) : List Nat := [k.p, k.bD, k.bV, k.bQ, bU, bF, bO]

/-- U once the first j are in. -/
def up0 (D : Nat → Int) (e j v : Nat) : Int := if v < j then (if 0 ≤ D v then (e : Int) + D v else 0) else 0

set_option maxHeartbeats 2000000 in
set_option maxRecDepth 8000 in
theorem judge_any (k : Wk) (E : Nat → Nat → Prop) (δ : Nat → Nat → Int) (hδ : ∀ i, i < k.N.n → IsDist E k.N.n i (δ i)) (hsym : ∀ u v, E u v → E v u)
    (hEE : ∀ u v, u < k.N.n → v < k.N.n → (E u v ↔ k.N.F u = false ∧ ∃ j, j < k.N.PL u ∧ k.N.peer u j = v ∧ k.N.use u j))
    (ps pt bT bQ bU bF bO r e q : Nat) (D V : Nat → Int) (Q : Nat → Nat) (dia : Int) (D0 V0 : Nat → Int) (q0 : Nat) (Q0 : Nat → Nat) (w : World)
    (hR : Reached k.N r D V q Q) (hFr : k.N.F r = false) (he : D (Q (q - 1)) = (e : Nat))
    (hs : WkStat k w) (hd : WkDyn k w D0 V0 q0 Q0) (ht : TrAt k.N.n pt bT bQ q r e D w) (hv : SuAt k.p k.N.n ps bU bF bO w) (h16 : w.cell? ⟨ps, 16, none⟩ = some (.int .i64 dia))
    (hU : w.rowIs bU 3 k.N.n (fun _ => .int .i64 0)) (hFa : w.rowIs bF 3 k.N.n (fun _ => .int .i64 0)) (hO : w.rowIs bO 3 (k.N.n + 2) (fun _ => .int .i64 0)) (ap : Apart k ps pt bT bQ bU bF bO)
    (hpU : k.p < bU) (hpF : k.p < bF) (hpO : k.p < bO) :
    Calls Try.prog 45 #[.pointer (some ⟨ps, 0, none⟩), .pointer (some ⟨pt, 0, none⟩), .int .i64 (-1)] w fun en w' => ∃ worst U, en = .returned (.tuple #[]) ∧ Same (ps :: k.Y bU bF bO) w w' ∧ w'.cell? ⟨ps, 16, none⟩ = some (.int .i64 worst) ∧
      Jg k.N.n r δ dia worst U ∧ (∀ p, p < k.N.n → 0 ≤ δ r p → ∀ u, u < k.N.n → 0 ≤ δ r u → δ p u ≤ worst) := by
  have hn := hs.nle
  have hdD := hR.isDist (E := E) hFr hEE
  have hrn := hR.hs
  have hee : ∀ v, v < k.N.n → D v = δ r v := hdD.unique (hδ r hrn)
  have hec := Ecc.of (r := r) hR hδ hdD hrn hrn (by rw [(hδ r hrn).zero]; omega) hsym
  rw [he] at hec
  obtain ⟨hecc, -, -, -, hen⟩ := hec
  have hq1 := hR.q1
  have hmx := run_max
  have hmn := run_min
  have hql : (0 : Int) < (q : Int) := by omega
  have t5 := ht.c5
  have t0 := ht.q0
  go_enter Try.func45, Try.ntmps45
  have hsf := searchFrom_root (some ⟨ps, 0, none⟩) pt bQ q k.N.n r (e : Nat) w hq1 t5 t0 ht.c7
  go_wp2_with fail
  refine hsf.mono ?_
  rintro en w1 ⟨rfl, rfl⟩
  clear hsf t5 t0
  have hds := distances_tree (some ⟨ps, 0, none⟩) pt k.N.n (some ⟨bT, 0, none⟩) w ht.c3
  go_wp2_with fail
  refine hds.mono ?_
  rintro en w1 ⟨rfl, rfl⟩
  clear hds
  go_wp2
  clear h16
  have hdb : ∀ v, v < k.N.n → -1 ≤ D v ∧ D v ≤ (e : Nat) := by
    intro v hv
    refine ⟨hR.neg v hv, ?_⟩
    by_cases h0 : 0 ≤ D v
    · rw [← he]; exact hR.last_max v hv h0
    · omega
  obtain ⟨a1, a2, a3, a4, a5, a6⟩ := ap
  go_loopg [48] k.N.n (fun gg iv wr => ∃ j : Nat, j + gg = k.N.n ∧ iv = .int .i64 j ∧ Same [bU] w wr ∧ wr.rowIs bU 3 k.N.n (fun v => .int .i64 (up0 D e j v)))
  case atStart => exact ⟨0, by omega, rfl, Same.refl _ _, hU.congr (fun i _ => by simp [up0])⟩
  case round =>
    clear hU
    obtain ⟨j, hj, rfl, hsx, hU⟩ := hrel
    have hvr := hv.same hsx (by simpa using a2.1)
    have htr := ht.same hsx (by simpa using a3.1) (by simpa using a4.1) (by simpa using a5.1)
    by_cases hjn : j < k.N.n
    · have cd := htr.row.cell hjn
      have cu := hU.cell hjn
      have fu := hU.frozen j
      have c8 := hvr.c8
      have hb := hdb j hjn
      have hjn' : (j : Int) < (k.N.n : Int) := by omega
      obtain ⟨x, hx⟩ : ∃ x, x = D j := ⟨_, rfl⟩
      have HX := (show Hid _ from hx)
      rw [← hx] at cd hb
      clear hx
      by_cases h0 : 0 ≤ x
      · go_wp2
        go_roundg (gk - 1)
        case measure => omega
        case rel =>
          refine ⟨j + 1, by omega, by go_num, hsx.setCell (.inl (by simp)) _, (hU.set j _).congr ?_⟩
          intro i _
          by_cases ei : i = j
          · subst ei; rw [HX.out] at h0 ⊢; simp [up0, h0]
          · by_cases e2 : i < j
            · simp [up0, ei, e2, show i < j + 1 by omega]
            · simp [up0, ei, e2, show ¬ i < j + 1 by omega]
      · go_wp2
        go_roundg (gk - 1)
        case measure => omega
        case rel =>
          refine ⟨j + 1, by omega, by go_num, hsx, hU.congr ?_⟩
          intro i _
          by_cases ei : i = j
          · subst ei; rw [HX.out] at h0; simp [up0]; omega
          · by_cases e2 : i < j
            · simp [up0, e2, show i < j + 1 by omega]
            · simp [up0, e2, show ¬ i < j + 1 by omega]
    · have hU1 : wr.rowIs bU 3 k.N.n (fun v => .int .i64 (if 0 ≤ δ r v then (e : Int) + δ r v else 0)) := by
        refine hU.congr ?_
        intro v hv'
        have ev := hee v hv'
        simp [up0, show v < j by omega, ev]
      have hff := farthest_any ps bF bO bT k.N.n e D (fun _ => 0) (fun _ => 0) wr hn (by omega) hdb hvr.c9 hvr.c10 (hsx.rowIs hO (by simpa using fun e => a6.2.1 e.symm)) (hsx.rowIs hFa (by simpa using fun e => a6.1 e.symm)) (fun i hi => by omega) htr.row hvr.lt a2.2.1 a2.2.2 a6.2.2 a4.2.1 a4.2.2.1
      clear hU
      go_wp2_with fail
      refine hff.mono ?_
      rintro en w2 ⟨G, rfl, hs2, hL, hF2⟩
      clear hff
      have hJ0 : Jg k.N.n r δ dia (max dia (e : Nat)) (fun v => if 0 ≤ δ r v then (e : Int) + δ r v else 0) := Jg.start hδ hsym hrn hecc (by omega) _ (fun v _ => rfl)
      have hUr0 : (fun v => if 0 ≤ δ r v then (e : Int) + δ r v else 0) r ≤ max dia (e : Nat) := by
        show (if 0 ≤ δ r r then (e : Int) + δ r r else 0) ≤ _
        rw [(hδ r hrn).zero]; simp; omega
      have hLat : ∀ q, q < k.N.n → 0 ≤ δ r q → G (pos k.N.n e D q) = q := by
        intro q hq h0
        rw [← hee q hq] at h0
        exact hL.at_ q hq h0
      have hT1 : ∀ q, q < k.N.n → 0 ≤ δ r q → pos k.N.n e D q < bel k.N.n e D (e + 1) := by
        intro q hq h0
        rw [← hee q hq] at h0
        exact pos_lt_total hq h0
      have hTn := bel_le k.N.n e D (e + 1)
      obtain ⟨T, hT⟩ : ∃ T, T = bel k.N.n e D (e + 1) := ⟨_, rfl⟩
      rw [← hT] at hT1 hTn
      rw [← hT]
      obtain ⟨P, hP⟩ : ∃ P, P = pos k.N.n e D := ⟨_, rfl⟩
      rw [← hP] at hT1 hLat
      have hGlt := hL.lt
      obtain ⟨U0, hU0⟩ : ∃ U0 : Nat → Int, U0 = fun v => if 0 ≤ δ r v then (e : Int) + δ r v else 0 := ⟨_, rfl⟩
      have hU2 : w2.rowIs bU 3 k.N.n (fun v => .int .i64 (U0 v)) := by
        rw [hU0]
        exact hs2.rowIs hU1 (by simp; exact ⟨a6.1, a6.2.1⟩)
      rw [← hU0] at hJ0 hUr0
      obtain ⟨W0, hW0⟩ : ∃ W0, W0 = max dia ((e : Nat) : Int) := ⟨_, rfl⟩
      rw [← hW0] at hJ0 hUr0
      rw [← hW0]
      clear hT hP hU0 hU1 hW0
      have hx1 : k.p ∉ [bU] ∧ k.bD ∉ [bU] ∧ k.bV ∉ [bU] ∧ k.bQ ∉ [bU] := by
        refine ⟨?_, ?_, ?_, ?_⟩ <;> (simp only [List.mem_singleton]; exact (a1 _ (by simp [Wk.X])).2.2.2.2.1)
      have hx2 : k.p ∉ [bF, bO] ∧ k.bD ∉ [bF, bO] ∧ k.bV ∉ [bF, bO] ∧ k.bQ ∉ [bF, bO] := by
        refine ⟨?_, ?_, ?_, ?_⟩ <;> (simp only [List.mem_cons, List.not_mem_nil, or_false, not_or]; exact ⟨(a1 _ (by simp [Wk.X])).2.2.2.2.2.1, (a1 _ (by simp [Wk.X])).2.2.2.2.2.2⟩)
      have hdyn2 : WkDyn k w2 D0 V0 q0 Q0 := (hd.same hsx hx1.1 hx1.2.1 hx1.2.2.1 hx1.2.2.2).same hs2 hx2.1 hx2.2.1 hx2.2.2.1 hx2.2.2.2
      have hSY : Same (k.Y bU bF bO) w w2 := (hsx.mono (by intro x hx; simp at hx; subst hx; exact .inl (by simp [Wk.Y]))).trans (hs2.mono (by intro x hx; simp only [List.mem_cons, List.not_mem_nil, or_false] at hx; exact .inl (by rcases hx with h | h <;> simp [Wk.Y, h])))
      have hv2 := hvr.same hs2 (by simp; exact ⟨a2.2.1, a2.2.2⟩)
      have ht2 := htr.same hs2 (by simp; exact ⟨a3.2.1, a3.2.2.1⟩) (by simp; exact ⟨a4.2.1, a4.2.2.1⟩) (by simp; exact ⟨a5.2.1, a5.2.2.1⟩)
      have hplt : k.p ≤ w.heap.size := by obtain ⟨f, hr, _⟩ := hd.row; have := hr.lt; omega
      clear hsx hvr htr hs2 hL
      go_wp2
      obtain ⟨wB, hwB⟩ : ∃ wB, wB = w2.alloc (Obj.cells #[Value.bool false, Value.bool true] 4) := ⟨_, rfl⟩
      have hSB : Same [] w2 wB := by rw [hwB]; exact (Same.refl _ _).alloc _
      obtain ⟨bB, hbB⟩ : ∃ b, b = w2.heap.size := ⟨_, rfl⟩
      have cB0 : wB.cell? ⟨bB, 0, none⟩ = some (.bool false) := by rw [hwB, hbB]; exact cell_new _ _ _ _
      have cB1 : wB.cell? ⟨bB, 1, none⟩ = some (.bool true) := by rw [hwB, hbB]; exact cell_new _ _ _ _
      have hBlt : bB < wB.heap.size := by rw [hwB, hbB]; simp
      have hBX : bB ∉ [k.p, k.bD, k.bV, k.bQ, bU] := by
        have h1 := hdyn2.lts
        have h2 := hU2.lt
        intro hx
        simp only [List.mem_cons, List.not_mem_nil, or_false] at hx
        rcases hx with hx | hx | hx | hx | hx
        · have := h1 k.p (by simp [Wk.X]); omega
        · have := h1 k.bD (by simp [Wk.X]); omega
        · have := h1 k.bV (by simp [Wk.X]); omega
        · have := h1 k.bQ (by simp [Wk.X]); omega
        · omega
      rw [← hwB, ← hbB]
      have hUB := hSB.rowIs hU2 (by simp)
      have hFB := hSB.rowIs hF2 (by simp)
      have hvB := hv2.same hSB (by simp)
      have htB := ht2.same hSB (by simp) (by simp) (by simp)
      have hdB := hdyn2.same hSB (by simp) (by simp) (by simp) (by simp)
      have hSYB : Same (k.Y bU bF bO) w wB := hSY.trans (hSB.mono (by intro x hx; cases hx))
      have hplB : k.p ≤ wB.heap.size := Nat.le_trans hplt hSYB.size
      have hYp : ∀ x ∈ k.Y bU bF bO, k.p ≤ x := by
        intro x hx
        have := hs.o1; have := hs.o2; have := hs.o3
        simp only [Wk.Y, List.mem_cons, List.not_mem_nil, or_false] at hx
        rcases hx with hx | hx | hx | hx | hx | hx | hx <;> omega
      have hstB := hs.below (hSYB.toBelow hplt hYp)
      have hXp : ∀ x ∈ [k.p, k.bD, k.bV, k.bQ, bU], k.p ≤ x := fun x hx => hYp x (by simp only [List.mem_cons, List.not_mem_nil, or_false] at hx; simp only [Wk.Y, List.mem_cons, List.not_mem_nil, or_false]; rcases hx with h | h | h | h | h <;> simp [h])
      have hkX : ∀ (x : Nat), x = ps ∨ x = pt ∨ x = bT ∨ x = bQ ∨ x = bF → x ∉ [k.p, k.bD, k.bV, k.bQ, bU] := by
        intro x hx hm
        simp only [List.mem_cons, List.not_mem_nil, or_false] at hm
        have key : ∀ y ∈ k.X, y = ps ∨ y = pt ∨ y = bT ∨ y = bQ ∨ y = bF → False := by
          intro y hy h
          have g := a1 y hy
          rcases h with h | h | h | h | h
          · exact g.1 h
          · exact g.2.1 h
          · exact g.2.2.1 h
          · exact g.2.2.2.1 h
          · exact g.2.2.2.2.2.1 h
        rcases hm with rfl | rfl | rfl | rfl | rfl
        · exact key _ (by simp [Wk.X]) hx
        · exact key _ (by simp [Wk.X]) hx
        · exact key _ (by simp [Wk.X]) hx
        · exact key _ (by simp [Wk.X]) hx
        · rcases hx with h | h | h | h | h
          · exact a2.1 h.symm
          · exact a3.1 h.symm
          · exact a4.1 h.symm
          · exact a5.1 h.symm
          · exact a6.1 h
      clear hwB hbB hU2 hF2 hv2 ht2 hdyn2 hSB hSY
      go_loopg [9, 71] 2 (fun gg wv iv wr => ∃ (i : Nat) (worst : Int) (U : Nat → Int) (D1 V1 : Nat → Int) (q1 : Nat) (Q1 : Nat → Nat), i + gg = 2 ∧ iv = .int .i64 i ∧ wv = .int .i64 worst ∧ Jg k.N.n r δ dia worst U ∧ U r ≤ worst ∧ (1 ≤ i → Dn k.N.n r δ P T worst) ∧
        Same [k.p, k.bD, k.bV, k.bQ, bU] wB wr ∧ wr.rowIs bU 3 k.N.n (fun v => .int .i64 (U v)) ∧ WkDyn k wr D1 V1 q1 Q1)
      case atStart => exact ⟨0, W0, U0, D0, V0, q0, Q0, by omega, rfl, rfl, hJ0, hUr0, fun h => by omega, Same.refl _ _, hUB, hdB⟩
      case round =>
        clear hJ0 hUr0 hUB hdB
        rename World => wr
        obtain ⟨i, worst, U, D1, V1, q1, Q1, hi, rfl, rfl, hJ, hUr, hDn, hsx, hU, hdy⟩ := hrel
        by_cases hi2 : i < 2
        · obtain ⟨mv, cmv⟩ : ∃ mv, wr.cell? ⟨bB, i, none⟩ = some (.bool mv) := by
            have : i = 0 ∨ i = 1 := by omega
            rcases this with rfl | rfl
            · exact ⟨_, gcell hsx hBlt hBX cB0⟩
            · exact ⟨_, gcell hsx hBlt hBX cB1⟩
          have hi2' : (i : Int) < 2 := by omega
          go_wp2
          go_loopg [9, 77] T (fun gg wv iv wr => ∃ (j : Nat) (worst : Int) (U : Nat → Int) (D1 V1 : Nat → Int) (q1 : Nat) (Q1 : Nat → Nat), j + gg = T ∧ iv = .int .i64 j ∧ wv = .int .i64 worst ∧ Jg k.N.n r δ dia worst U ∧ U r ≤ worst ∧ Dn k.N.n r δ P j worst ∧ (1 ≤ i → Dn k.N.n r δ P T worst) ∧
            Same [k.p, k.bD, k.bV, k.bQ, bU] wB wr ∧ wr.rowIs bU 3 k.N.n (fun v => .int .i64 (U v)) ∧ WkDyn k wr D1 V1 q1 Q1)
          case atStart => exact ⟨0, worst, U, D1, V1, q1, Q1, by omega, rfl, rfl, hJ, hUr, Dn.zero, hDn, hsx, hU, hdy⟩
          case round =>
            clear hJ hUr hDn hsx hU hdy cmv
            rename World => wy
            obtain ⟨j, worst, U, D1, V1, q1, Q1, hj, rfl, rfl, hJ, hUr, hDj, hDn, hsx, hU, hdy⟩ := hrel
            by_cases hjT : j < T
            · have cF := (hsx.rowIs hFB (hkX bF (by simp))).cell (i := j) (by omega)
              have hGj := hGlt j (by omega)
              have cU := hU.cell hGj
              have c8 := (hvB.same hsx (hkX ps (by simp))).c8
              have hup : 0 ≤ δ r (G j) → ∀ u, u < k.N.n → 0 ≤ δ r u → δ (G j) u ≤ U (G j) := fun h0 u hu hu0 => hJ.up (G j) hGj h0 u hu hu0
              have hun : δ r (G j) < 0 → U (G j) = 0 := hJ.un (G j) hGj
              have hnx : (∀ worst', (∀ u, u < k.N.n → 0 ≤ δ r u → 0 ≤ δ r (G j) → δ (G j) u ≤ worst') → Dn k.N.n r δ P j worst' → Dn k.N.n r δ P (j + 1) worst') := fun worst' h1 h2 => h2.next hLat h1
              have hur : G j = r → U (G j) ≤ worst := fun e => by rw [e]; exact hUr
              obtain ⟨p, hp⟩ : ∃ p, p = G j := ⟨_, rfl⟩
              rw [← hp] at cF cU hGj hup hun hnx hur
              obtain ⟨u, hu⟩ : ∃ u, u = U p := ⟨_, rfl⟩
              rw [← hu] at cU hup hun hur
              have hjT' : (j : Int) < (T : Int) := by omega
              have hpn' : (p : Int) < (k.N.n : Int) := by omega
              clear hp hu
              have hbX := (hsx.cell (p := ⟨bB, i, none⟩) hBlt hBX)
              go_upto_region 17 with fail
              go_cut [99] (fun t wx => t = .bool (decide (u ≤ worst)) ∧ wy = wx)
              case first =>
                by_cases hle : u ≤ worst
                · have hdd : decide (u ≤ worst) = true := decide_eq_true hle
                  go_wp2
                  go_meet
                  case rel => exact ⟨by rw [hdd], rfl⟩
                · have hdd : decide (u ≤ worst) = false := decide_eq_false hle
                  cases mv with
                  | true =>
                    go_wp2
                    go_meet
                    case rel => exact ⟨by rw [hdd], rfl⟩
                  | false =>
                    go_wp2_with fail
                    refine (moves_neg _ _ _).mono ?_
                    rintro en wq ⟨rfl, rfl⟩
                    go_wp2
                    go_meet
                    case rel => exact ⟨by rw [hdd], rfl⟩
              case rest =>
                obtain ⟨rfl, rfl⟩ := hcut
                by_cases hle : u ≤ worst
                · have hdd : decide (u ≤ worst) = true := decide_eq_true hle
                  rw [hdd]
                  have hDj1 := hnx worst (fun u' hu' hu0 h0 => Int.le_trans (hup h0 u' hu' hu0) hle) hDj
                  clear hup hun hnx hur
                  go_wp2
                  go_roundg (T - (j + 1))
                  case measure => omega
                  case rel => exact ⟨j + 1, worst, U, D1, V1, q1, Q1, by omega, by go_num, rfl, hJ, hUr, hDj1, hDn, hsx, hU, hdy⟩
                · have hdd : decide (u ≤ worst) = false := decide_eq_false hle
                  rw [hdd]
                  have hwn := hJ.wn
                  have hp0 : 0 ≤ δ r p := by
                    by_cases h0 : 0 ≤ δ r p
                    · exact h0
                    · have := hun (by omega); omega
                  have hpr : p ≠ r := fun e => hle (hur e)
                  have hFp : k.N.F p = false := hR.ok hFr p hGj (by rw [hee p hGj]; exact hp0)
                  have hty := htB.same hsx (hkX pt (by simp)) (hkX bT (by simp)) (hkX bQ (by simp))
                  have hvy := hvB.same hsx (hkX ps (by simp))
                  have hsty := hstB.below (hsx.toBelow hplB hXp)
                  have hso := searchFrom_other k ps pt bQ q k.N.n r p D1 V1 q1 Q1 wy hsty hdy hq1 hty.c5 hty.q0 hvy.c0 hpr hGj
                  clear hup hun hur hpr hdd hle hty hvy
                  go_wp2_with fail
                  refine hso.mono ?_
                  rintro en w3 ⟨D3, V3, q3, Q3, hR3, rfl, hs3, hd3⟩
                  clear hso
                  have hdD3 := hR3.isDist (E := E) hFp hEE
                  obtain ⟨hec3, hD3, hD3r, hy0, hyn⟩ := Ecc.of (r := r) hR3 hδ hdD3 hrn hGj hp0 hsym
                  obtain ⟨y, hy⟩ : ∃ y, y = D3 (Q3 (q3 - 1)) := ⟨_, rfl⟩
                  rw [← hy] at hec3 hy0 hyn
                  rw [← hy]
                  have hs3' : Same [k.p, k.bD, k.bV, k.bQ, bU] wy w3 := hs3.mono (by intro x hx; simp only [Wk.X, List.mem_cons, List.not_mem_nil, or_false] at hx; exact .inl (by rcases hx with h | h | h | h <;> simp [h]))
                  have hsx3 := hsx.trans hs3'
                  have hU3 : w3.rowIs bU 3 k.N.n (fun v => .int .i64 (U v)) := hs3.rowIs hU (fun hx => (a1 bU hx).2.2.2.2.1 rfl)
                  have hJ3 := hJ.raise hGj hp0 hec3
                  have hUr3 : U r ≤ max worst y := by omega
                  have hDj1 := hnx (max worst y) (fun u' hu' hu0 h0 => Int.le_trans (hec3.le u' hu' hu0) (by omega)) (hDj.mono (by omega))
                  have hDn3 : 1 ≤ i → Dn k.N.n r δ P T (max worst y) := fun h => (hDn h).mono (by omega)
                  obtain ⟨W, hW⟩ : ∃ W, W = max worst y := ⟨_, rfl⟩
                  have hmx3 : ∀ (ats : Array TypeId) (ty : TypeId) (w : World), (Builtin.max_ ats ty #[.int .i64 worst, .int .i64 y]).run Try.prog w = .ok (.int .i64 W) w := fun ats ty w => by rw [hW]; exact run_max ats ty worst y w
                  rw [← hW] at hJ3 hUr3 hDj1 hDn3
                  clear hy hnx hDj hDn hJ hUr hsx hU hdy hs3 hs3' hsty hW hmx
                  by_cases hyw : y = W
                  · have hyy : (y == W) = true := by simpa using hyw
                    clear hyw
                    go_wp2
                    go_roundg (T - (j + 1))
                    case measure => omega
                    case rel => exact ⟨j + 1, W, U, D3, V3, q3, Q3, by omega, by go_num, rfl, hJ3, hUr3, hDj1, hDn3, hsx3, hU3, hd3⟩
                  · have hyy : (y == W) = false := by simpa using hyw
                    clear hyw
                    have hst3 := hstB.below (hsx3.toBelow hplB hXp)
                    have hv3 := hvB.same hsx3 (hkX ps (by simp))
                    have hdw := distances_walk ps k.p k.N.n (some ⟨k.bD, 0, none⟩) w3 hv3.c0 (hd3.cells hst3).2.2.2.1
                    clear hv3
                    go_wp2_with fail
                    refine hdw.mono ?_
                    rintro en w4 ⟨rfl, rfl⟩
                    clear hdw
                    go_wp2
                    go_loopg [119] k.N.n (fun gg iv wx => ∃ (m : Nat) (U' : Nat → Int), m + gg = k.N.n ∧ iv = .int .i64 m ∧ Jg k.N.n r δ dia W U' ∧ U' r ≤ W ∧ Same [bU] w3 wx ∧ wx.rowIs bU 3 k.N.n (fun v => .int .i64 (U' v)))
                    case atStart => exact ⟨0, U, by omega, rfl, hJ3, hUr3, Same.refl _ _, hU3⟩
                    case round =>
                      clear hJ3 hUr3 hU3
                      rename World => wm
                      obtain ⟨m, U', hm, rfl, hJm, hUm, hsm, hrm⟩ := hrel
                      have hdm := hd3.same hsm hx1.1 hx1.2.1 hx1.2.2.1 hx1.2.2.2
                      have hsxm : Same [k.p, k.bD, k.bV, k.bQ, bU] wB wm := hsx3.trans (hsm.mono (by intro x hx; simp only [List.mem_singleton] at hx; exact .inl (by simp [hx])))
                      by_cases hmn : m < k.N.n
                      · have cd := hdm.dist.cell hmn
                        have cu := hrm.cell hmn
                        have fu := hrm.frozen m
                        have c8 := (hvB.same hsxm (hkX ps (by simp))).c8
                        have hlow : 0 ≤ D3 m → Jg k.N.n r δ dia W (upd U' m (min (U' m) (y + D3 m))) := by
                          intro h0
                          rw [hD3 m hmn]
                          exact hJm.lower hδ hsym hrn hGj hp0 hec3 hmn ((hD3r m hmn).1 h0)
                        have hlowr : upd U' m (min (U' m) (y + D3 m)) r ≤ W := by
                          by_cases e : r = m
                          · subst e; rw [upd_same]; omega
                          · rw [upd_ne _ _ _ _ e]; exact hUm
                        have hxl := hR3.lt m hmn
                        have hmn' : (m : Int) < (k.N.n : Int) := by omega
                        obtain ⟨x, hx⟩ : ∃ x, x = D3 m := ⟨_, rfl⟩
                        rw [← hx] at cd hlow hlowr hxl
                        obtain ⟨um, hum⟩ : ∃ um, um = U' m := ⟨_, rfl⟩
                        rw [← hum] at cu hlow hlowr
                        have HLR := (show Hid _ from hlowr)
                        clear hx hum hlowr
                        by_cases h0 : 0 ≤ x
                        · have HL := (show Hid _ from hlow h0)
                          have hw1 : IntKind.i64.wrap (y + x) = y + x := by rw [IntKind.wrap_i64]; omega
                          clear hlow
                          go_wp2
                          go_region
                          all_goals
                            go_wp2
                            go_roundg (k.N.n - (m + 1))
                            case measure => omega
                            case rel => exact ⟨m + 1, _, by omega, by go_num, HL.out, HLR.out, (hsm.setCell (.inl (by simp)) _).drew, World.rowIs.drew (row_put hrm _ _)⟩
                        · clear hlow
                          go_wp2
                          go_roundg (k.N.n - (m + 1))
                          case measure => omega
                          case rel => exact ⟨m + 1, U', by omega, by go_num, hJm, hUm, hsm, hrm⟩
                      · go_wp2
                        go_roundg (T - (j + 1))
                        case measure => omega
                        case rel => exact ⟨j + 1, W, U', D3, V3, q3, Q3, by omega, by go_num, rfl, hJm, hUm, hDj1, hDn3, hsxm, hrm, hdm⟩
            · have hDT : Dn k.N.n r δ P T worst := by rw [show T = j by omega]; exact hDj
              go_wp2
              go_roundg (2 - (i + 1))
              case measure => omega
              case rel => exact ⟨i + 1, worst, U, D1, V1, q1, Q1, by omega, by go_num, rfl, hJ, hUr, fun _ => hDT, hsx, hU, hdy⟩
        · have hDT := hDn (by omega)
          obtain ⟨fS, hfS⟩ := (hvB.same hsx (hkX ps (by simp))).row
          have fps := hfS.frozen 16
          have cps := hfS.cell (i := 16) (by omega)
          go_wp2
          go_end0
          refine ⟨worst, U, rfl, ?_, ?_, hJ, ?_⟩
          · have h1 : Same (ps :: k.Y bU bF bO) w wr := (hSYB.trans (hsx.mono (by
              intro x hx
              simp only [List.mem_cons, List.not_mem_nil, or_false] at hx
              exact .inl (by rcases hx with h | h | h | h | h <;> simp [Wk.Y, h])))).mono (fun x hx => .inl (List.mem_cons_of_mem _ hx))
            exact h1.setCell (.inl (by simp)) _
          · rw [(hfS.set 16 (.int .i64 worst)).cell (by omega)]
            simp
          · intro p hp h0 u hu hu0
            exact hDT p hp h0 (hT1 p hp h0) u hu hu0

end Go.Proofs.Qxb6608983a
