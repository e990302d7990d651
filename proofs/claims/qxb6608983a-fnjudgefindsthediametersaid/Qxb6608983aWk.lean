import Derived.Test.Qxb6608983aSurv
import Derived.Test.Qxb6608983aBfs
namespace Go.Proofs.Qxb6608983a
open Go.RowKit
set_option linter.unusedVariables false
set_option linter.unusedSimpArgs false

/-- A walk in memory: its struct's block (its type, its number of cells), the blocks of dist, via and queue, the slices of ports, failed and cut. -/
structure Wk where
  N : Net
  p : Nat
  tp : Nat
  np : Nat
  bD : Nat
  bV : Nat
  bQ : Nat
  aP : Option Addr
  aF : Option Addr
  aC : Option Addr
  cP : Nat
  cF : Nat
  cC : Nat
  PA : Nat → Option Addr
  PC : Nat → Nat

structure WkStat (k : Wk) (w : World) : Prop where
  ok : k.N.ok
  nle : k.N.n ≤ 4096
  mle : k.N.m ≤ 4096
  ple : ∀ v, v < k.N.n → k.N.PL v ≤ 10000
  ports : At k.p w k.aP k.N.n (fun v => .slice (k.PA v) (k.N.PL v) (k.PC v))
  port : ∀ v, v < k.N.n → ∀ j, j < k.N.PL v → ∃ b off, k.PA v = some ⟨b, off, none⟩ ∧ b < k.p ∧ w.cell? ⟨b, off + j * 2, none⟩ = some (.int .i64 (k.N.peer v j)) ∧ w.cell? ⟨b, off + j * 2 + 1, none⟩ = some (.int .i64 (k.N.link v j))
  failed : At k.p w k.aF k.N.n (fun v => .bool (k.N.F v))
  cut : At k.p w k.aC k.N.m (fun v => .bool (k.N.C v))
  o1 : k.p < k.bD
  o2 : k.bD < k.bV
  o3 : k.bV < k.bQ
  np : 6 ≤ k.np

theorem WkStat.below {k : Wk} {w w' : World} (h : WkStat k w) (hb : Below k.p w w') : WkStat k w' := by
  refine { h with ports := h.ports.below hb, failed := h.failed.below hb, cut := h.cut.below hb, port := ?_ }
  intro v hv j hj
  obtain ⟨b, off, e, hlt, c1, c2⟩ := h.port v hv j hj
  exact ⟨b, off, e, hlt, by rw [hb.cell hlt]; exact c1, by rw [hb.cell hlt]; exact c2⟩

structure WkDyn (k : Wk) (w : World) (D V : Nat → Int) (q : Nat) (Q : Nat → Nat) : Prop where
  row : ∃ f, w.rowIs k.p k.tp k.np f ∧ f 0 = .slice k.aP k.N.n k.cP ∧ f 1 = .slice k.aF k.N.n k.cF ∧ f 2 = .slice k.aC k.N.m k.cC ∧ f 3 = .slice (some ⟨k.bD, 0, none⟩) k.N.n k.N.n ∧
    f 4 = .slice (some ⟨k.bV, 0, none⟩) k.N.n k.N.n ∧ f 5 = .slice (some ⟨k.bQ, 0, none⟩) q k.N.n
  dist : w.rowIs k.bD 3 k.N.n (fun i => .int .i64 (D i))
  via : w.rowIs k.bV 3 k.N.n (fun i => .int .i64 (V i))
  queue : ∃ g, w.rowIs k.bQ 3 k.N.n g ∧ ∀ i, i < q → g i = .int .i64 (Q i : Nat)

/-- The cells of the walk's struct, as a step wants them. -/
theorem WkDyn.cells {k : Wk} {w : World} {D V : Nat → Int} {q : Nat} {Q : Nat → Nat} (h : WkDyn k w D V q Q) (hs : WkStat k w) :
    w.cell? ⟨k.p, 0, none⟩ = some (.slice k.aP k.N.n k.cP) ∧ w.cell? ⟨k.p, 1, none⟩ = some (.slice k.aF k.N.n k.cF) ∧ w.cell? ⟨k.p, 2, none⟩ = some (.slice k.aC k.N.m k.cC) ∧
    w.cell? ⟨k.p, 3, none⟩ = some (.slice (some ⟨k.bD, 0, none⟩) k.N.n k.N.n) ∧ w.cell? ⟨k.p, 4, none⟩ = some (.slice (some ⟨k.bV, 0, none⟩) k.N.n k.N.n) ∧ w.cell? ⟨k.p, 5, none⟩ = some (.slice (some ⟨k.bQ, 0, none⟩) q k.N.n) := by
  obtain ⟨f, hr, e0, e1, e2, e3, e4, e5⟩ := h.row
  have := hs.np
  exact ⟨by rw [hr.cell (by omega), e0], by rw [hr.cell (by omega), e1], by rw [hr.cell (by omega), e2], by rw [hr.cell (by omega), e3], by rw [hr.cell (by omega), e4], by rw [hr.cell (by omega), e5]⟩

theorem WkDyn.frozen {k : Wk} {w : World} {D V : Nat → Int} {q : Nat} {Q : Nat → Nat} (h : WkDyn k w D V q Q) (i : Nat) :
    w.frozen? ⟨k.p, i, none⟩ = false ∧ w.frozen? ⟨k.bD, i, none⟩ = false ∧ w.frozen? ⟨k.bV, i, none⟩ = false ∧ w.frozen? ⟨k.bQ, i, none⟩ = false := by
  obtain ⟨f, hr, _⟩ := h.row
  obtain ⟨g, hg, _⟩ := h.queue
  exact ⟨hr.frozen i, h.dist.frozen i, h.via.frozen i, hg.frozen i⟩

theorem WkDyn.same {k : Wk} {w w' : World} {D V : Nat → Int} {q : Nat} {Q : Nat → Nat} (h : WkDyn k w D V q Q) {X : List Nat} (hs : Same X w w') (h1 : k.p ∉ X) (h2 : k.bD ∉ X) (h3 : k.bV ∉ X) (h4 : k.bQ ∉ X) : WkDyn k w' D V q Q := by
  obtain ⟨f, hr, e⟩ := h.row
  obtain ⟨g, hg, eg⟩ := h.queue
  exact ⟨⟨f, hs.rowIs hr h1, e⟩, hs.rowIs h.dist h2, hs.rowIs h.via h3, ⟨g, hs.rowIs hg h4, eg⟩⟩

theorem WkDyn.alloc {k : Wk} {w : World} {D V : Nat → Int} {q : Nat} {Q : Nat → Nat} (h : WkDyn k w D V q Q) (o : Obj) : WkDyn k (w.alloc o) D V q Q :=
  h.same (X := []) ((Same.refl _ _).alloc o) (by simp) (by simp) (by simp) (by simp)
theorem WkDyn.drew {k : Wk} {w : World} {D V : Nat → Int} {q : Nat} {Q : Nat → Nat} (h : WkDyn k w D V q Q) : WkDyn k w.drew D V q Q := ⟨h.row, h.dist, h.via, h.queue⟩
theorem WkDyn.drawn {k : Wk} {w : World} {D V : Nat → Int} {q : Nat} {Q : Nat → Nat} (h : WkDyn k w D V q Q) (r : Nat) : WkDyn k (w.drewN r) D V q Q := ⟨h.row, h.dist, h.via, h.queue⟩

theorem WkDyn.congr {k : Wk} {w : World} {D V D' V' : Nat → Int} {q : Nat} {Q : Nat → Nat} (h : WkDyn k w D V q Q) (hD : ∀ i, i < k.N.n → D i = D' i) (hV : ∀ i, i < k.N.n → V i = V' i) : WkDyn k w D' V' q Q :=
  ⟨h.row, h.dist.congr (fun i hi => by rw [hD i hi]), h.via.congr (fun i hi => by rw [hV i hi]), h.queue⟩

theorem WkDyn.setD {k : Wk} {w : World} {D V : Nat → Int} {q : Nat} {Q : Nat → Nat} (h : WkDyn k w D V q Q) (hs : WkStat k w) (i : Nat) (x : Int) : WkDyn k (w.setCell ⟨k.bD, i, none⟩ (.int .i64 x)) (upd D i x) V q Q := by
  obtain ⟨f, hr, e⟩ := h.row
  obtain ⟨g, hg, eg⟩ := h.queue
  have := hs.o1; have := hs.o2; have := hs.o3
  refine ⟨⟨f, hr.setOther (by simp; omega) _, e⟩, (h.dist.set i _).congr ?_, h.via.setOther (by simp; omega) _, ⟨g, hg.setOther (by simp; omega) _, eg⟩⟩
  intro j hj
  by_cases ej : j = i
  · subst ej; simp [upd]
  · simp [upd, ej]

theorem WkDyn.setV {k : Wk} {w : World} {D V : Nat → Int} {q : Nat} {Q : Nat → Nat} (h : WkDyn k w D V q Q) (hs : WkStat k w) (i : Nat) (x : Int) : WkDyn k (w.setCell ⟨k.bV, i, none⟩ (.int .i64 x)) D (upd V i x) q Q := by
  obtain ⟨f, hr, e⟩ := h.row
  obtain ⟨g, hg, eg⟩ := h.queue
  have := hs.o1; have := hs.o2; have := hs.o3
  refine ⟨⟨f, hr.setOther (by simp; omega) _, e⟩, h.dist.setOther (by simp; omega) _, (h.via.set i _).congr ?_, ⟨g, hg.setOther (by simp; omega) _, eg⟩⟩
  intro j hj
  by_cases ej : j = i
  · subst ej; simp [upd]
  · simp [upd, ej]

/-- The queue, cut to qq, with x put behind: the two stores. -/
theorem WkDyn.push {k : Wk} {w : World} {D V : Nat → Int} {q : Nat} {Q : Nat → Nat} (h : WkDyn k w D V q Q) (hs : WkStat k w) (qq x : Nat) (hqq : qq ≤ q) :
    WkDyn k ((w.setCell ⟨k.bQ, qq, none⟩ (.int .i64 (x : Int))).setCell ⟨k.p, 5, none⟩ (.slice (some ⟨k.bQ, 0, none⟩) (qq + 1) k.N.n)) D V (qq + 1) (upd Q qq x) := by
  obtain ⟨f, hr, e0, e1, e2, e3, e4, e5⟩ := h.row
  obtain ⟨g, hg, eg⟩ := h.queue
  have := hs.o1; have := hs.o2; have := hs.o3
  refine ⟨⟨_, (hr.setOther (by simp; omega) _).set 5 _, by simp [e0], by simp [e1], by simp [e2], by simp [e3], by simp [e4], by simp⟩, (h.dist.setOther (by simp; omega) _).setOther (by simp; omega) _,
    (h.via.setOther (by simp; omega) _).setOther (by simp; omega) _, ⟨_, (hg.set qq _).setOther (by simp; omega) _, ?_⟩⟩
  intro j hj
  by_cases ej : j = qq
  · subst ej; simp [upd]
  · simp [upd, ej, eg j (by omega)]

/-- The blocks that a search writes. -/
def Wk.X (k : Wk) : List Nat := [k.p, k.bD, k.bV, k.bQ]

theorem WkStat.same {k : Wk} {w w' : World} (h : WkStat k w) (hs : Same k.X w w') (hp : k.p ≤ w.heap.size) : WkStat k w' := by
  refine h.below (hs.toBelow hp ?_)
  have := h.o1; have := h.o2; have := h.o3
  intro x hx
  simp [Wk.X] at hx
  omega

end Go.Proofs.Qxb6608983a
