import Derived.Test.Qxb6608983aRows
import Derived.WalkKit
import Derived.Deep.OwnRows
import Derived.Deep.LoopGhost
import Derived.Deep.DeepCutAuto
import Derived.Deep.Draws
import Derived.Deep.RegionHeldLaw
import Derived.BigQuiet
import Derived.WalkSpells
namespace Go.Proofs.Qxb6608983a
open Go.RowKit
set_option linter.unusedVariables false

theorem Try.info3 : (Try.prog.info? 3).map (fun i => (i.zero, i.size, i.bytes)) = some (some (.int .i64 0), 1, 8) := by kernel_rfl
theorem Try.info4 : (Try.prog.info? 4).map (fun i => (i.zero, i.size, i.bytes)) = some (some (.bool false), 1, 1) := by kernel_rfl

theorem heap_new (w : World) (o : Obj) : (w.alloc o).heap[w.heap.size]? = some o := by
  show (w.heap.push _)[w.heap.size]? = _
  simp

theorem below_drawn {B : Nat} {w w' : World} (h : Below B w w') (q : Nat) : Below B w (w'.drewN q) := ⟨h.os, h.tape, h.output, h.size, h.block⟩

theorem dd {w : World} {q r : Nat} : ∃ k, (w.drewN q).drewN r = w.drewN k := ⟨q + r, by simp⟩

/-- A slice's address a leads to n cells, the i-th holding f i, all in blocks below B. -/
def At (B : Nat) (w : World) (a : Option Addr) (n : Nat) (f : Nat → Value) : Prop :=
  ∀ i, i < n → ∃ b off, a = some ⟨b, off, none⟩ ∧ b < B ∧ w.cell? ⟨b, off + i, none⟩ = some (f i)

theorem At.below {B : Nat} {w w' : World} {a : Option Addr} {n : Nat} {f : Nat → Value} (h : At B w a n f) (hb : Below B w w') : At B w' a n f := by
  intro i hi
  obtain ⟨b, off, e, hlt, hc⟩ := h i hi
  exact ⟨b, off, e, hlt, by rw [hb.cell hlt]; exact hc⟩
theorem At.mono {B B' : Nat} {w : World} {a : Option Addr} {n : Nat} {f : Nat → Value} (h : At B w a n f) (hB : B ≤ B') : At B' w a n f := by
  intro i hi
  obtain ⟨b, off, e, hlt, hc⟩ := h i hi
  exact ⟨b, off, e, by omega, hc⟩
theorem At.lit {B : Nat} {w : World} {b off : Nat} {n : Nat} {f : Nat → Value} (h : At B w (some ⟨b, off, none⟩) n f) {i : Nat} (hi : i < n) : w.cell? ⟨b, off + i, none⟩ = some (f i) := by
  obtain ⟨b', off', e, hlt, hc⟩ := h i hi
  simp only [Option.some.injEq, Addr.mk.injEq] at e
  obtain ⟨rfl, rfl, _⟩ := e
  exact hc
theorem At.int {B : Nat} {w : World} {a : Option Addr} {n : Nat} {f : Nat → Int} (h : At B w a n (fun i => .int .i64 (f i))) {i : Nat} (hi : i < n) : ∃ b off, a = some ⟨b, off, none⟩ ∧ b < B ∧ w.cell? ⟨b, off + i, none⟩ = some (.int .i64 (f i)) := h i hi
theorem At.bool {B : Nat} {w : World} {a : Option Addr} {n : Nat} {f : Nat → Bool} (h : At B w a n (fun i => .bool (f i))) {i : Nat} (hi : i < n) : ∃ b off, a = some ⟨b, off, none⟩ ∧ b < B ∧ w.cell? ⟨b, off + i, none⟩ = some (.bool (f i)) := h i hi
theorem At.litI {B : Nat} {w : World} {b off : Nat} {n : Nat} {f : Nat → Int} (h : At B w (some ⟨b, off, none⟩) n (fun i => .int .i64 (f i))) {i : Nat} (hi : i < n) : w.cell? ⟨b, off + i, none⟩ = some (.int .i64 (f i)) := h.lit hi
theorem At.litB {B : Nat} {w : World} {b off : Nat} {n : Nat} {f : Nat → Bool} (h : At B w (some ⟨b, off, none⟩) n (fun i => .bool (f i))) {i : Nat} (hi : i < n) : w.cell? ⟨b, off + i, none⟩ = some (.bool (f i)) := h.lit hi
theorem At.of_rowIs {B : Nat} {w : World} {g : Nat} {t : TypeId} {n : Nat} {f : Nat → Value} (h : w.rowIs g t n f) (hB : g < B) : At B w (some ⟨g, 0, none⟩) n f := by
  intro i hi
  exact ⟨g, 0, rfl, hB, by rw [Nat.zero_add]; exact h.cell hi⟩
theorem At.congr {B : Nat} {w : World} {a : Option Addr} {n : Nat} {f g : Nat → Value} (h : At B w a n f) (e : ∀ i, i < n → f i = g i) : At B w a n g := by
  intro i hi
  obtain ⟨b, off, e1, hlt, hc⟩ := h i hi
  exact ⟨b, off, e1, hlt, by rw [hc, e i hi]⟩

theorem row_step {w : World} {b : Nat} {t : TypeId} {n j : Nat} {F : Nat → Value} {z v : Value} (h : w.rowIs b t n (fun i => if i < j then F i else z)) (hv : v = F j) :
    (w.setCell ⟨b, j, none⟩ v).rowIs b t n (fun i => if i < j + 1 then F i else z) := by
  refine (h.set j v).congr ?_
  intro i _
  by_cases e : i = j
  · subst e; simp [hv]
  · simp only [e, if_false]
    by_cases e2 : i < j
    · simp [e2, show i < j + 1 by omega]
    · simp [e2, show ¬ i < j + 1 by omega]

/-- 'make([]int, 0, n)'. -/
theorem run_make_zero {P : Program} (t e : TypeId) (ht : P.underlying t = some (.slice e)) (hinfo : (P.info? e).map (fun i => (i.zero, i.size, i.bytes)) = some (some (.int .i64 0), 1, 8))
    (n : Nat) (hn : n ≤ 1048576) (w : World) :
    (Instr.makeSlice t (.int .i64 0) (.int .i64 (n : Int))).run P w = .ok (.slice (some ⟨w.heap.size, 0, none⟩) 0 n) (w.alloc (.cells (madeCells #[.int .i64 0] n) e)) := by
  obtain ⟨i, hi, hz, hs, hb⟩ := info_parts hinfo
  have hb' : (i.bytes : Int) * (n : Int) ≤ 281474976710656 := by rw [hb]; omega
  have hr := run_make (P := P) w t e i _ ht hi hz .i64 .i64 0 n (by omega) (by omega) hb' (by omega)
  simp only [Int.toNat_natCast, Int.toNat_zero, hs, Value.cells, Nat.mul_one] at hr
  exact hr

/-- 'make([]T, n)', T a struct of two integer cells. -/
theorem run_make_pairs {P : Program} (t e : TypeId) (bytes : Nat) (ht : P.underlying t = some (.slice e)) (hinfo : (P.info? e).map (fun i => (i.zero, i.size, i.bytes)) = some (some (.agg #[.int .i64 0, .int .i64 0]), 2, bytes))
    (n : Nat) (hbytes : bytes * n ≤ 281474976710656) (h63 : n ≤ 9223372036854775807) (w : World) :
    (Instr.makeSlice t (.int .i64 (n : Int)) (.int .i64 (n : Int))).run P w = .ok (.slice (some ⟨w.heap.size, 0, none⟩) n n) (w.alloc (.cells (madeCells #[.int .i64 0, .int .i64 0] (n * 2)) e)) := by
  obtain ⟨i, hi, hz, hs, hb⟩ := info_parts hinfo
  have hb' : (i.bytes : Int) * (n : Int) ≤ 281474976710656 := by
    have h : ((i.bytes * n : Nat) : Int) ≤ 281474976710656 := by rw [hb]; omega
    rwa [Int.natCast_mul] at h
  have hr := run_make (P := P) w t e i _ ht hi hz .i64 .i64 n n (by omega) (Int.le_refl _) hb' (by omega)
  simp only [Int.toNat_natCast, hs, Value.cells] at hr
  exact hr

theorem rowIs_pairs (w : World) (n : Nat) (t : TypeId) : (w.alloc (.cells (madeCells #[.int .i64 0, .int .i64 0] (n * 2)) t)).rowIs w.heap.size t (n * 2) (fun _ => .int .i64 0) := by
  refine ⟨_, heap_new _ _, size_madeCells _ _, fun i hi => ?_⟩
  have : i % 2 = 0 ∨ i % 2 = 1 := by omega
  rcases this with h | h <;> simp [madeCells, hi, h]

/-- An append whose run is known, as a law of the walk. -/
theorem wpList_append_run {P : Program} {w : World} {ops : Array Oper} {rest : List Oper} {o : Oper} {a : Act} {Q : Exit → Act → World → Prop} (hgd : o.guard = none) (s x : Operand) (t : TypeId)
    (ho : o.op = .call { callee := .builtin .append, args := #[s, x], argTypes := #[t, t] }) (vs vx v' : Value) (w' : World) (hs : a.eval s = vs) (hx : a.eval x = vx)
    (hrun : (Builtin.append_ #[t, t] o.type #[vs, vx]).run P w = .ok v' w') (h : wpList P ops Q rest (a.put o.dst v') w') : wpList P ops Q (o :: rest) a w := by
  refine wpList_plain hgd fun K hK => ?_
  unfold Oper.wp
  simp [execOp, ho, resolve, invoke, builtin, hs, hx, hrun, Result.andThen]
  exact hK _ _ h

/-- The same as one step of a region that draws its order. -/
theorem step_append_run {P : Program} {w : World} {ops : Array Oper} {o : Oper} {a : Act} {K : Act → World → Prop} {Q : Exit → Act → World → Prop} {E : Prop} (hgd : o.guard = none) (s x : Operand) (t : TypeId)
    (ho : o.op = .call { callee := .builtin .append, args := #[s, x], argTypes := #[t, t] }) (vs vx v' : Value) (w' : World) (hs : a.eval s = vs) (hx : a.eval x = vx)
    (hrun : (Builtin.append_ #[t, t] o.type #[vs, vx]).run P w = .ok v' w') (h : K (a.put o.dst v') w') : if Region.wanted o (yielded ops a.tmps) = true then Oper.wp P o a w K Q else E := by
  have hw : Region.wanted o (yielded ops a.tmps) = true := by simp [Region.wanted, hgd]
  rw [if_pos hw]
  unfold Oper.wp
  simp [execOp, ho, resolve, invoke, builtin, hs, hx, hrun, Result.andThen]
  exact h

/-- All blocks that were there are as they were, but for those of X; no block has gone. -/
structure Same (X : List Nat) (w w' : World) : Prop where
  os : w'.os = w.os
  tape : w'.tape = w.tape
  output : w'.output = w.output
  size : w.heap.size ≤ w'.heap.size
  block : ∀ k, k < w.heap.size → k ∉ X → w'.heap[k]? = w.heap[k]?

theorem Same.refl (X : List Nat) (w : World) : Same X w w := ⟨rfl, rfl, rfl, Nat.le_refl _, fun _ _ _ => rfl⟩
theorem Same.trans {X : List Nat} {a b c : World} (h : Same X a b) (k : Same X b c) : Same X a c :=
  ⟨k.os.trans h.os, k.tape.trans h.tape, k.output.trans h.output, Nat.le_trans h.size k.size, fun i hi hx => (k.block i (Nat.lt_of_lt_of_le hi h.size) hx).trans (h.block i hi hx)⟩
theorem Same.drawn {X : List Nat} {a b : World} (h : Same X a b) (q : Nat) : Same X a (b.drewN q) := ⟨h.os, h.tape, h.output, h.size, h.block⟩
theorem Same.drew {X : List Nat} {a b : World} (h : Same X a b) : Same X a b.drew := ⟨h.os, h.tape, h.output, h.size, h.block⟩
theorem Same.alloc {X : List Nat} {a b : World} (h : Same X a b) (o : Obj) : Same X a (b.alloc o) :=
  h.trans ⟨rfl, rfl, rfl, by simp, fun k hk _ => Below.heap_alloc _ _ _ hk⟩
theorem Same.setCell {X : List Nat} {a b : World} (h : Same X a b) {p : Addr} (hp : p.block ∈ X ∨ a.heap.size ≤ p.block) (u : Value) : Same X a (b.setCell p u) := by
  refine ⟨h.os, h.tape, h.output, by have := h.size; simpa [World.setCell] using this, fun k hk hx => ?_⟩
  have hne : k ≠ p.block := by
    intro e
    subst e
    rcases hp with hp | hp
    · exact hx hp
    · omega
  rw [Below.heap_setCell _ _ _ _ hne]
  exact h.block k hk hx
theorem Same.mono {X Y : List Nat} {a b : World} (h : Same X a b) (hX : ∀ x ∈ X, x ∈ Y ∨ a.heap.size ≤ x) : Same Y a b := by
  refine ⟨h.os, h.tape, h.output, h.size, fun k hk hy => h.block k hk (fun hx => ?_)⟩
  rcases hX k hx with h1 | h1
  · exact hy h1
  · omega
theorem Same.toBelow {X : List Nat} {a b : World} (h : Same X a b) {B : Nat} (hB : B ≤ a.heap.size) (hX : ∀ x ∈ X, B ≤ x) : Below B a b :=
  ⟨h.os, h.tape, h.output, h.size, fun k hk => h.block k (by omega) (fun hx => by have := hX k hx; omega)⟩
theorem Same.of_below {B : Nat} {a b : World} (h : Below B a b) (hB : a.heap.size ≤ B) (X : List Nat) : Same X a b :=
  ⟨h.os, h.tape, h.output, h.size, fun k hk _ => h.block k (by omega)⟩

theorem Same.cell {X : List Nat} {a b : World} (h : Same X a b) {p : Addr} (hp : p.block < a.heap.size) (hx : p.block ∉ X) : b.cell? p = a.cell? p := World.cell?_of_block (w := a) (h.block p.block hp hx)

end Go.Proofs.Qxb6608983a
