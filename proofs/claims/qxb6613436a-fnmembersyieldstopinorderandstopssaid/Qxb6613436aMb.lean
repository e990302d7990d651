import Derived.Test.Qxb6613436aRows
import Derived.WalkKit
import Derived.Deep.OwnRows
import Derived.Deep.LoopGhost
import Derived.Deep.DeepCutAuto
import Derived.Deep.Draws
import Derived.Deep.RegionHeldLaw
import Derived.Deep.AppendLies
import Derived.BigQuiet
import Derived.WalkSpells
namespace Go.Proofs.Qxb6613436a
open Go.RowKit
set_option linter.unusedVariables false

theorem Try.info27 : (Try.prog.info? 27).map (fun i => (i.zero, i.size, i.bytes)) = some (some (.slice none 0 0), 1, 24) := by kernel_rfl
theorem Try.info45 : (Try.prog.info? 45).map (fun i => (i.zero, i.size, i.bytes)) = some (some (.agg #[.slice none 0 0, .slice none 0 0]), 2, 48) := by kernel_rfl

theorem heap_new (w : World) (o : Obj) : (w.alloc o).heap[w.heap.size]? = some o := by
  show (w.heap.push _)[w.heap.size]? = _
  simp

theorem below_drawn {B : Nat} {w w' : World} (h : Below B w w') (q : Nat) : Below B w (w'.drewN q) := ⟨h.os, h.tape, h.output, h.size, h.block⟩

theorem dd {w : World} {q r : Nat} : ∃ k, (w.drewN q).drewN r = w.drewN k := ⟨q + r, by simp⟩

/-- A slice's address a leads to n cells, the i-th holding f i, all in blocks below B. -/
def At (B : Nat) (w : World) (a : Option Addr) (n : Nat) (f : Nat → Value) : Prop :=
  ∀ i, i < n → ∃ b off, a = some ⟨b, off, none⟩ ∧ b < B ∧ w.cell? ⟨b, off + i, none⟩ = some (f i)

theorem At.below {B : Nat} {w w' : World} {a : Option Addr} {n : Nat} {f : Nat → Value} (h : At B w a n f) (hb : Below B w w') : At B w' a n f := by
  intro i hi
  obtain ⟨b, off, e, hlt, hc⟩ := h i hi
  exact ⟨b, off, e, hlt, by rw [hb.cell hlt]; exact hc⟩
theorem At.mono {B B' : Nat} {w : World} {a : Option Addr} {n : Nat} {f : Nat → Value} (h : At B w a n f) (hB : B ≤ B') : At B' w a n f := by
  intro i hi
  obtain ⟨b, off, e, hlt, hc⟩ := h i hi
  exact ⟨b, off, e, by omega, hc⟩
theorem At.lit {B : Nat} {w : World} {b off : Nat} {n : Nat} {f : Nat → Value} (h : At B w (some ⟨b, off, none⟩) n f) {i : Nat} (hi : i < n) : w.cell? ⟨b, off + i, none⟩ = some (f i) := by
  obtain ⟨b', off', e, hlt, hc⟩ := h i hi
  simp only [Option.some.injEq, Addr.mk.injEq] at e
  obtain ⟨rfl, rfl, _⟩ := e
  exact hc
theorem At.int {B : Nat} {w : World} {a : Option Addr} {n : Nat} {f : Nat → Int} (h : At B w a n (fun i => .int .i64 (f i))) {i : Nat} (hi : i < n) : ∃ b off, a = some ⟨b, off, none⟩ ∧ b < B ∧ w.cell? ⟨b, off + i, none⟩ = some (.int .i64 (f i)) := h i hi
theorem At.bool {B : Nat} {w : World} {a : Option Addr} {n : Nat} {f : Nat → Bool} (h : At B w a n (fun i => .bool (f i))) {i : Nat} (hi : i < n) : ∃ b off, a = some ⟨b, off, none⟩ ∧ b < B ∧ w.cell? ⟨b, off + i, none⟩ = some (.bool (f i)) := h i hi
theorem At.litI {B : Nat} {w : World} {b off : Nat} {n : Nat} {f : Nat → Int} (h : At B w (some ⟨b, off, none⟩) n (fun i => .int .i64 (f i))) {i : Nat} (hi : i < n) : w.cell? ⟨b, off + i, none⟩ = some (.int .i64 (f i)) := h.lit hi
theorem At.litB {B : Nat} {w : World} {b off : Nat} {n : Nat} {f : Nat → Bool} (h : At B w (some ⟨b, off, none⟩) n (fun i => .bool (f i))) {i : Nat} (hi : i < n) : w.cell? ⟨b, off + i, none⟩ = some (.bool (f i)) := h.lit hi
theorem At.of_rowIs {B : Nat} {w : World} {g : Nat} {t : TypeId} {n : Nat} {f : Nat → Value} (h : w.rowIs g t n f) (hB : g < B) : At B w (some ⟨g, 0, none⟩) n f := by
  intro i hi
  exact ⟨g, 0, rfl, hB, by rw [Nat.zero_add]; exact h.cell hi⟩
theorem At.congr {B : Nat} {w : World} {a : Option Addr} {n : Nat} {f g : Nat → Value} (h : At B w a n f) (e : ∀ i, i < n → f i = g i) : At B w a n g := by
  intro i hi
  obtain ⟨b, off, e1, hlt, hc⟩ := h i hi
  exact ⟨b, off, e1, hlt, by rw [hc, e i hi]⟩

theorem row_step {w : World} {b : Nat} {t : TypeId} {n j : Nat} {F : Nat → Value} {z v : Value} (h : w.rowIs b t n (fun i => if i < j then F i else z)) (hv : v = F j) :
    (w.setCell ⟨b, j, none⟩ v).rowIs b t n (fun i => if i < j + 1 then F i else z) := by
  refine (h.set j v).congr ?_
  intro i _
  by_cases e : i = j
  · subst e; simp [hv]
  · simp only [e, if_false]
    by_cases e2 : i < j
    · simp [e2, show i < j + 1 by omega]
    · simp [e2, show ¬ i < j + 1 by omega]

theorem wpList_append_run {P : Program} {w : World} {ops : Array Oper} {rest : List Oper} {o : Oper} {a : Act} {Q : Exit → Act → World → Prop} (hgd : o.guard = none) (s x : Operand) (t : TypeId)
    (ho : o.op = .call { callee := .builtin .append, args := #[s, x], argTypes := #[t, t] }) (vs vx v' : Value) (w' : World) (hs : a.eval s = vs) (hx : a.eval x = vx)
    (hrun : (Builtin.append_ #[t, t] o.type #[vs, vx]).run P w = .ok v' w') (h : wpList P ops Q rest (a.put o.dst v') w') : wpList P ops Q (o :: rest) a w := by
  refine wpList_plain hgd fun K hK => ?_
  unfold Oper.wp
  simp [execOp, ho, resolve, invoke, builtin, hs, hx, hrun, Result.andThen]
  exact hK _ _ h

/-- The same as one step of a region that draws its order. -/
theorem step_append_run {P : Program} {w : World} {ops : Array Oper} {o : Oper} {a : Act} {K : Act → World → Prop} {Q : Exit → Act → World → Prop} {E : Prop} (hgd : o.guard = none) (s x : Operand) (t : TypeId)
    (ho : o.op = .call { callee := .builtin .append, args := #[s, x], argTypes := #[t, t] }) (vs vx v' : Value) (w' : World) (hs : a.eval s = vs) (hx : a.eval x = vx)
    (hrun : (Builtin.append_ #[t, t] o.type #[vs, vx]).run P w = .ok v' w') (h : K (a.put o.dst v') w') : if Region.wanted o (yielded ops a.tmps) = true then Oper.wp P o a w K Q else E := by
  have hw : Region.wanted o (yielded ops a.tmps) = true := by simp [Region.wanted, hgd]
  rw [if_pos hw]
  unfold Oper.wp
  simp [execOp, ho, resolve, invoke, builtin, hs, hx, hrun, Result.andThen]
  exact h

/-- A slice of bytes that can be read, all in blocks below B. -/
def Bytes (B : Nat) (w : World) (v : Value) : Prop := ∃ a l c, ∃ f : Nat → Int, v = .slice a l c ∧ l ≤ maxLen ∧ At B w a l (fun i => .int .u8 (f i))
theorem Bytes.below {B : Nat} {w w' : World} {v : Value} (h : Bytes B w v) (hb : Below B w w') : Bytes B w' v := by
  obtain ⟨a, l, c, f, e, hl, h⟩ := h
  exact ⟨a, l, c, f, e, hl, h.below hb⟩

/-- n members at a, the i-th with key K i and value V i, all in blocks below B. -/
def MemAt (B : Nat) (w : World) (a : Option Addr) (n : Nat) (K V : Nat → Value) : Prop :=
  ∀ i, i < n → ∃ b off, a = some ⟨b, off, none⟩ ∧ b < B ∧ w.cell? ⟨b, off + i * 2, none⟩ = some (K i) ∧ w.cell? ⟨b, off + i * 2 + 1, none⟩ = some (V i) ∧ Bytes B w (K i) ∧ Bytes B w (V i)
theorem MemAt.below {B : Nat} {w w' : World} {a : Option Addr} {n : Nat} {K V : Nat → Value} (h : MemAt B w a n K V) (hb : Below B w w') : MemAt B w' a n K V := by
  intro i hi
  obtain ⟨b, off, e, hlt, h1, h2, h3, h4⟩ := h i hi
  exact ⟨b, off, e, hlt, by rw [hb.cell hlt]; exact h1, by rw [hb.cell hlt]; exact h2, h3.below hb, h4.below hb⟩

set_option maxHeartbeats 400000 in
theorem add_any (n k : Int) (w : World) (h0 : 0 ≤ n) (h1 : n ≤ 1048577) (h2 : 0 ≤ k) (h3 : k ≤ 9223372036854775807) :
    Calls Try.prog 13 #[.int .i64 n, .int .i64 k] w fun e w' => (∃ r : Int, e = .returned (.int .i64 r) ∧ 0 ≤ r ∧ r ≤ 1048577) ∧ w = w' := by
  by_cases c1 : 1048576 < n
  · have d1 : decide ((1048576 : Int) < n) = true := decide_eq_true c1
    go_enter Try.func13, Try.ntmps13
    go_wp2
    go_ret
    exact ⟨⟨_, rfl, by omega, by omega⟩, rfl⟩
  · have d1 : decide ((1048576 : Int) < n) = false := decide_eq_false c1
    by_cases c2 : 1048576 - n < k
    · have d2 : decide ((1048576 : Int) - n < k) = true := decide_eq_true c2
      go_enter Try.func13, Try.ntmps13
      go_wp2
      go_ret
      exact ⟨⟨_, rfl, by omega, by omega⟩, rfl⟩
    · have d2 : decide ((1048576 : Int) - n < k) = false := decide_eq_false c2
      go_enter Try.func13, Try.ntmps13
      go_wp2
      go_ret
      exact ⟨⟨_, rfl, by omega, by omega⟩, rfl⟩

set_option maxHeartbeats 1000000 in
theorem raw_any (a : Option Addr) (n cap : Nat) (K V : Nat → Value) (B : Nat) (w : World) (hn : n ≤ 1048576) (h : MemAt B w a n K V) :
    Calls Try.prog 8 #[.slice a n cap] w fun e w' => (∃ r : Int, e = .returned (.int .i64 r)) ∧ w = w' := by
  go_enter Try.func8, Try.ntmps8
  go_wp2
  go_loopg [3, 4] n (fun g0 sv iv wx => ∃ (j : Nat) (r : Int), j + g0 = n ∧ iv = .int .i64 j ∧ sv = .int .i64 r ∧ 0 ≤ r ∧ r ≤ 1048577 ∧ w = wx)
  case atStart => exact ⟨0, 0, by omega, rfl, rfl, by omega, by omega, rfl⟩
  case round =>
    obtain ⟨j, r, hj, rfl, rfl, hr0, hr1, rfl⟩ := hrel
    by_cases hjn : j < n
    · obtain ⟨b, off, rfl, hb, c1, c2, ⟨a1, l1, cc1, f1, e1, m1, _⟩, ⟨a2, l2, cc2, f2, e2, m2, _⟩⟩ := h j hjn
      rw [e1] at c1
      rw [e2] at c2
      unfold maxLen at m1 m2
      clear h e1 e2
      have hjn' : (j : Int) < (n : Int) := by omega
      go_wp2_with fail
      refine (add_any r 48 w hr0 hr1 (by omega) (by omega)).mono ?_
      rintro e w' ⟨⟨r1, rfl, g1, g2⟩, rfl⟩
      go_wp2_with fail
      refine (add_any r1 l1 w g1 g2 (by omega) (by omega)).mono ?_
      rintro e w' ⟨⟨r2, rfl, g3, g4⟩, rfl⟩
      go_wp2_with fail
      refine (add_any r2 l2 w g3 g4 (by omega) (by omega)).mono ?_
      rintro e w' ⟨⟨r3, rfl, g5, g6⟩, rfl⟩
      by_cases c3 : 1048576 < r3
      · go_wp2
        go_ret
        exact ⟨⟨_, rfl⟩, rfl⟩
      · go_wp2
        go_roundg (gk - 1)
        case measure => omega
        case rel => exact ⟨j + 1, r3, by omega, by go_num, rfl, g5, g6, rfl⟩
    · go_wp2
      go_ret
      exact ⟨⟨_, rfl⟩, rfl⟩

/-- What the bound's test answers. -/
def Bounded (n : Nat) (e : Ending) : Prop := ∃ b, e = .returned (.bool b) ∧ (b = true → n ≤ 1048576)

set_option maxHeartbeats 1000000 in
theorem bytes7_any (a : Option Addr) (n cap : Nat) (st : Int) (K V : Nat → Value) (B : Nat) (w : World) (hn : n ≤ maxLen) (h : MemAt B w a n K V) :
    Calls Try.prog 7 #[.slice a n cap, .int .i64 st] w fun e w' => Bounded n e ∧ w = w' := by
  unfold maxLen at hn
  by_cases hn1 : 1048576 < n
  · have d1 : decide ((1048576 : Int) < (n : Int)) = true := decide_eq_true (by omega)
    go_enter Try.func7, Try.ntmps7
    go_wp2
    go_ret
    exact ⟨⟨_, rfl, fun h => by cases h⟩, rfl⟩
  · have d1 : decide ((1048576 : Int) < (n : Int)) = false := decide_eq_false (by omega)
    go_enter Try.func7, Try.ntmps7
    go_wp2
    go_loopg [5, 6] n (fun g0 sv iv wx => ∃ (j : Nat) (r : Int), j + g0 = n ∧ iv = .int .i64 j ∧ sv = .int .i64 r ∧ 0 ≤ r ∧ r ≤ 1048576 ∧ w = wx)
    case atStart => exact ⟨0, n, by omega, rfl, by go_num, by omega, by omega, rfl⟩
    case round =>
      obtain ⟨j, r, hj, rfl, rfl, hr0, hr1, rfl⟩ := hrel
      by_cases hjn : j < n
      · obtain ⟨b, off, rfl, hb, c1, c2, ⟨a1, l1, cc1, f1, e1, m1, _⟩, ⟨a2, l2, cc2, f2, e2, m2, _⟩⟩ := h j hjn
        rw [e1] at c1
        rw [e2] at c2
        unfold maxLen at m1 m2
        clear h e1 e2
        have hjn' : (j : Int) < (n : Int) := by omega
        by_cases x1 : 1048576 < l1
        · have : decide ((1048576 : Int) < (l1 : Int)) = true := decide_eq_true (by omega)
          go_wp2
          go_ret
          exact ⟨⟨_, rfl, fun h => by cases h⟩, rfl⟩
        have y1 : decide ((1048576 : Int) < (l1 : Int)) = false := decide_eq_false (by omega)
        by_cases x2 : 1048576 < r + l1
        · have : decide ((1048576 : Int) < r + (l1 : Int)) = true := decide_eq_true (by omega)
          go_wp2
          go_ret
          exact ⟨⟨_, rfl, fun h => by cases h⟩, rfl⟩
        have y2 : decide ((1048576 : Int) < r + (l1 : Int)) = false := decide_eq_false (by omega)
        by_cases x3 : 1048576 < l2
        · have : decide ((1048576 : Int) < (l2 : Int)) = true := decide_eq_true (by omega)
          go_wp2
          go_ret
          exact ⟨⟨_, rfl, fun h => by cases h⟩, rfl⟩
        have y3 : decide ((1048576 : Int) < (l2 : Int)) = false := decide_eq_false (by omega)
        by_cases x4 : 1048576 < r + l1 + l2
        · have : decide ((1048576 : Int) < r + (l1 : Int) + (l2 : Int)) = true := decide_eq_true (by omega)
          go_wp2
          go_ret
          exact ⟨⟨_, rfl, fun h => by cases h⟩, rfl⟩
        have y4 : decide ((1048576 : Int) < r + (l1 : Int) + (l2 : Int)) = false := decide_eq_false (by omega)
        go_wp2
        go_roundg (gk - 1)
        case measure => omega
        case rel => exact ⟨j + 1, _, by omega, by go_num, rfl, by omega, by omega, rfl⟩
      · go_wp2
        go_ret
        exact ⟨⟨_, rfl, fun _ => by omega⟩, rfl⟩

set_option maxHeartbeats 400000 in
theorem same_any (v : Value) (B : Nat) (w : World) (h : Bytes B w v) :
    Calls Try.prog 10 #[v, v] w fun e w' => e = .returned (.bool true) ∧ ∃ q, w' = w.drewN q := by
  obtain ⟨a, l, c, f, rfl, hl, h⟩ := h
  unfold maxLen at hl
  go_enter Try.func10, Try.ntmps10
  go_wp2
  go_loopg [5] l (fun g0 iv wx => ∃ (j : Nat), j + g0 = l ∧ iv = .int .i64 j ∧ ∃ q, wx = w.drewN q)
  case atStart => exact ⟨0, by omega, rfl, 0, rfl⟩
  case round =>
    obtain ⟨j, hj, rfl, q, rfl⟩ := hrel
    by_cases hjn : j < l
    · obtain ⟨b, off, rfl, hb, c1⟩ := h j hjn
      obtain ⟨x, hx⟩ : ∃ x, x = f j := ⟨_, rfl⟩
      have c1' : w.cell? ⟨b, off + j, none⟩ = some (.int .u8 (f j)) := c1
      clear c1
      rw [← hx] at c1'
      have hjn' : (j : Int) < (l : Int) := by omega
      have g1 : (x != x) = false := by simp
      clear hx
      go_wp2
      go_quiet (fail)
      go_wp2
      go_roundg (gk - 1)
      case measure => omega
      case rel => exact ⟨j + 1, by omega, by go_num, _, rfl⟩
    · go_wp2
      go_ret
      exact ⟨rfl, _, rfl⟩

end Go.Proofs.Qxb6613436a
