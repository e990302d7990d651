import Derived.Test.Qxb6608983aBase
import Derived.Test.Qxb6608983aDist
namespace Go.Proofs.Qxb6608983a
open Go.RowKit
set_option linter.unusedVariables false
set_option linter.unusedSimpArgs false

/-- The links, the failed processors and the cut links, as the laws are handed them. -/
structure Lk where
  n : Nat
  m : Nat
  f : Nat → Nat
  g : Nat → Nat
  F : Nat → Bool
  C : Nat → Bool

def Lk.us (L : Lk) (l : Nat) : Bool := !L.C l && (!L.F (L.f l) && !L.F (L.g l))
def Lk.E (L : Lk) (u v : Nat) : Prop := ∃ l, l < L.m ∧ L.us l = true ∧ ((L.f l = u ∧ L.g l = v) ∨ (L.g l = u ∧ L.f l = v))
theorem Lk.us_iff (L : Lk) (l : Nat) : L.us l = true ↔ L.C l = false ∧ L.F (L.f l) = false ∧ L.F (L.g l) = false := by simp [Lk.us]

/-- They lie in memory, in blocks below B. -/
structure LkAt (L : Lk) (B : Nat) (w : World) (aa ab af ac : Option Addr) : Prop where
  nle : L.n ≤ 4096
  mle : L.m ≤ 4096
  fits : ∀ i, i < L.m → L.f i < L.n ∧ L.g i < L.n ∧ L.f i ≠ L.g i
  A : At B w aa L.m (fun i => .int .i64 (L.f i : Nat))
  B' : At B w ab L.m (fun i => .int .i64 (L.g i : Nat))
  Fd : At B w af L.n (fun i => .bool (L.F i))
  Ct : At B w ac L.m (fun i => .bool (L.C i))

theorem LkAt.below {L : Lk} {B : Nat} {w w' : World} {aa ab af ac : Option Addr} (h : LkAt L B w aa ab af ac) (hb : Below B w w') : LkAt L B w' aa ab af ac :=
  ⟨h.nle, h.mle, h.fits, h.A.below hb, h.B'.below hb, h.Fd.below hb, h.Ct.below hb⟩

theorem At.nat {B : Nat} {w : World} {a : Option Addr} {n : Nat} {f : Nat → Nat} (h : At B w a n (fun i => .int .i64 (f i : Nat))) {i : Nat} (hi : i < n) : ∃ b off, a = some ⟨b, off, none⟩ ∧ b < B ∧ w.cell? ⟨b, off + i, none⟩ = some (.int .i64 (f i : Nat)) := h i hi
theorem At.litN {B : Nat} {w : World} {b off : Nat} {n : Nat} {f : Nat → Nat} (h : At B w (some ⟨b, off, none⟩) n (fun i => .int .i64 (f i : Nat))) {i : Nat} (hi : i < n) : w.cell? ⟨b, off + i, none⟩ = some (.int .i64 (f i : Nat)) := h.lit hi

set_option maxHeartbeats 400000 in
theorem usable_any (L : Lk) (B : Nat) (w : World) (aa ab af ac : Option Addr) (ca cb cf cc : Nat) (l : Nat) (h : LkAt L B w aa ab af ac) (hl : l < L.m) :
    Calls Try.prog 42 #[.int .i64 l, .slice aa L.m ca, .slice ab L.m cb, .slice af L.n cf, .slice ac L.m cc, .int .i64 (-1)] w fun e w' => e = .returned (.bool (L.us l)) ∧ w = w' := by
  obtain ⟨hfa, hga, _⟩ := h.fits l hl
  obtain ⟨b1, o1, rfl, _, c1⟩ := h.A.nat hl
  obtain ⟨b2, o2, rfl, _, c2⟩ := h.B'.nat hl
  obtain ⟨b3, o3, rfl, _, c3⟩ := h.Fd.bool hfa
  have c3' := h.Fd.litB hga
  obtain ⟨b4, o4, rfl, _, c4⟩ := h.Ct.bool hl
  have hl' : (l : Int) < (L.m : Int) := by omega
  have hfa' : (L.f l : Int) < (L.n : Int) := by omega
  have hga' : (L.g l : Int) < (L.n : Int) := by omega
  have hm := h.mle
  have hn := h.nle
  have hne : ((l : Int) != -1) = true := by simp
  unfold Lk.us
  obtain ⟨x1, hx1⟩ : ∃ x, x = L.C l := ⟨_, rfl⟩
  obtain ⟨x2, hx2⟩ : ∃ x, x = L.F (L.f l) := ⟨_, rfl⟩
  obtain ⟨x3, hx3⟩ : ∃ x, x = L.F (L.g l) := ⟨_, rfl⟩
  rw [← hx1, ← hx2, ← hx3]
  rw [← hx1] at c4
  rw [← hx2] at c3
  rw [← hx3] at c3'
  clear hx1 hx2 hx3
  cases x1 <;> cases x2 <;> cases x3
  all_goals
    go_enter Try.func42, Try.ntmps42
    go_wp2
    go_ret
    exact ⟨rfl, rfl⟩

end Go.Proofs.Qxb6608983a
