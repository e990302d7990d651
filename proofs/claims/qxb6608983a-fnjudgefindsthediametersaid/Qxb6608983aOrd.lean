import Derived.Test.Qxb6608983aReach
namespace Go.Proofs.Qxb6608983a
open Go.RowKit
set_option linter.unusedVariables false
set_option linter.unusedSimpArgs false

/-- 'append(order, queue...)' where there is room for all. -/
theorem order_append {w : World} {bO bQ n q cQ : Nat} {g0 gq : Nat → Value} {Q : Nat → Nat} (ho : w.rowIs bO 3 n g0) (hq : w.rowIs bQ 3 cQ gq) (hqc : q ≤ cQ) (eq : ∀ i, i < q → gq i = .int .i64 (Q i : Nat)) (hqn : q ≤ n) :
    ∃ w', (Builtin.append_ #[22, 22] 22 #[.slice (some ⟨bO, 0, none⟩) 0 n, .slice (some ⟨bQ, 0, none⟩) q cQ]).run Try.prog w = .ok (.slice (some ⟨bO, 0, none⟩) q n) w' ∧ Same [bO] w w' ∧
      ∃ g1, w'.rowIs bO 3 n g1 ∧ ∀ i, i < q → g1 i = .int .i64 (Q i : Nat) := by
  obtain ⟨i, hi, hz, hsz, hb⟩ := info_parts Try.info3
  obtain ⟨cur, hcur, hcs, hcv⟩ := ho
  have hr := run_append_room (P := Try.prog) w 22 22 3 i Try.underlying22 hi bO 0 n cur hcur ⟨bQ, 0, none⟩ q cQ ((List.range q).map fun i => .int .i64 (Q i : Nat)) (by simp [hsz]) (by
      intro j u hu
      rw [Addr.add_lit, Nat.zero_add]
      obtain ⟨hj, he⟩ := List.getElem?_eq_some_iff.1 hu
      simp at hj he
      rw [hq.cell (by omega), eq j hj, he]) (by
      intro u hu
      obtain ⟨_, _, rfl⟩ := List.mem_map.1 hu
      rfl) (by omega) (by simp [hsz]; omega)
  simp only [hsz, Nat.zero_mul, Nat.zero_add, List.take_zero, List.nil_append] at hr
  refine ⟨_, hr, ⟨rfl, rfl, rfl, by simp [World.setRow], fun k hk hx => setRow_other w bO k _ (by simpa using hx)⟩, fun j => (((List.range q).map fun i => Value.int .i64 (Q i : Nat)) ++ cur.toList.drop q).getD j (.bool false), ?_, ?_⟩
  · refine ⟨_, setRow_heap w bO cur _ 3 _ hcur, ?_, ?_⟩
    · simp; omega
    · intro j hj
      have hlen : j < (((List.range q).map fun i => Value.int .i64 (Q i : Nat)) ++ cur.toList.drop q).length := by simp; omega
      simp only [List.getElem?_toArray, List.getD, List.length_map, List.length_range]
      rw [List.getElem?_eq_getElem hlen]
      rfl
  · intro j hj
    have h1 : j < ((List.range q).map fun i => Value.int .i64 (Q i : Nat)).length := by simpa using hj
    simp only [List.getD]
    rw [List.getElem?_append_left h1]
    simp [hj]

theorem Same.trans' {X Y : List Nat} {a b c : World} (h : Same X a b) (k : Same Y b c) (hY : ∀ y ∈ Y, y ∈ X ∨ a.heap.size ≤ y) : Same X a c := by
  refine ⟨k.os.trans h.os, k.tape.trans h.tape, k.output.trans h.output, Nat.le_trans h.size k.size, fun i hi hx => ?_⟩
  rw [k.block i (Nat.lt_of_lt_of_le hi h.size) (fun hy => by
    rcases hY i hy with h1 | h1
    · exact hx h1
    · omega)]
  exact h.block i hi hx

/-- 'append(order, x)' where there is room. -/
theorem order_push {w : World} {bO n len x : Nat} {g0 : Nat → Value} (ho : w.rowIs bO 3 n g0) (hl : len < n) :
    ∃ w', (Builtin.append_ #[22, 22] 22 #[.slice (some ⟨bO, 0, none⟩) len n, .slice (some ⟨w.heap.size, 0, none⟩) 1 1]).run Try.prog (w.alloc (.cells #[.int .i64 (x : Int)] 3)) = .ok (.slice (some ⟨bO, 0, none⟩) (len + 1) n) w' ∧ Same [bO] w w' ∧
      w'.rowIs bO 3 n (upd g0 len (.int .i64 (x : Nat))) := by
  obtain ⟨i, hi, hz, hsz, hb⟩ := info_parts Try.info3
  have hg := ho.alloc (.cells #[.int .i64 (x : Int)] 3)
  have hr := run_append_room_cells (P := Try.prog) (w.alloc (.cells #[.int .i64 (x : Int)] 3)) 22 22 3 i Try.underlying22 hi bO 0 len n ⟨w.heap.size, 0, none⟩ 1 1 [.int .i64 (x : Int)] (by simp [hsz]) (by
      intro j u hu
      rw [Addr.add_lit, Nat.zero_add, cell_new]
      simpa using hu) (by intro u hu; simp at hu; subst hu; rfl) (by omega) (by
      intro j hj
      simp at hj
      subst hj
      simp only [hsz, Nat.mul_one, Nat.zero_add, Nat.add_zero]
      rw [hg.cell hl]; rfl) (by
      intro j hj
      exact hg.frozen _)
  simp only [hsz, Nat.mul_one, Nat.zero_add, World.setCells] at hr
  exact ⟨_, hr, ((Same.refl _ _).alloc _).setCell (.inl (by simp)) _, hg.set len _⟩

/-- The order under way: the search's queue, then those below j that it did not reach. -/
structure OrdInv (n : Nat) (D : Nat → Int) (q : Nat) (Q : Nat → Nat) (j len : Nat) (O : Nat → Nat) : Prop where
  qle : q ≤ len
  lle : len ≤ n
  head : ∀ i, i < q → O i = Q i
  on : ∀ i, i < len → O i < n
  inj : ∀ i i', i < len → i' < len → O i = O i' → i = i'
  mem : ∀ v, v < n → ((∃ i, i < len ∧ O i = v) ↔ (0 ≤ D v ∨ v < j))
  tail : ∀ i, q ≤ i → i < len → D (O i) < 0 ∧ O i < j
  asc : ∀ i i', q ≤ i → i < i' → i' < len → O i < O i'

theorem OrdInv.start {N : Net} {s : Nat} {D V : Nat → Int} {q : Nat} {Q : Nat → Nat} (h : Reached N s D V q Q) : OrdInv N.n D q Q 0 q Q := by
  refine ⟨Nat.le_refl _, h.qle, fun _ _ => rfl, h.qn, h.inj, ?_, fun i h1 h2 => by omega, fun i i' h1 h2 h3 => by omega⟩
  intro v hv
  rw [h.mem v hv]
  constructor
  · intro h; exact .inl h
  · rintro (h | h)
    · exact h
    · omega

theorem OrdInv.keep {n : Nat} {D : Nat → Int} {q : Nat} {Q : Nat → Nat} {j len : Nat} {O : Nat → Nat} (h : OrdInv n D q Q j len O) (hD : 0 ≤ D j) : OrdInv n D q Q (j + 1) len O := by
  refine { h with mem := ?_, tail := fun i h1 h2 => ⟨(h.tail i h1 h2).1, by have := (h.tail i h1 h2).2; omega⟩ }
  intro v hv
  rw [h.mem v hv]
  constructor
  · rintro (h | h)
    · exact .inl h
    · exact .inr (by omega)
  · rintro (h | h)
    · exact .inl h
    · by_cases e : v = j
      · subst e; exact .inl hD
      · exact .inr (by omega)

theorem OrdInv.new {n : Nat} {D : Nat → Int} {q : Nat} {Q : Nat → Nat} {j len : Nat} {O : Nat → Nat} (h : OrdInv n D q Q j len O) (hj : j < n) (hD : D j < 0) : ∀ i, i < len → O i ≠ j := by
  intro i hi e
  rcases (h.mem j hj).1 ⟨i, hi, e⟩ with h1 | h1 <;> omega

theorem OrdInv.room {n : Nat} {D : Nat → Int} {q : Nat} {Q : Nat → Nat} {j len : Nat} {O : Nat → Nat} (h : OrdInv n D q Q j len O) (hj : j < n) (hD : D j < 0) : len < n := by
  have hnew := h.new hj hD
  have := pigeon n (len + 1) (upd O len j) (by
    intro i hi
    by_cases e : i = len
    · subst e; rw [upd_same]; exact hj
    · rw [upd_ne _ _ _ _ e]; exact h.on i (by omega)) (by
    intro i i' hi hi' e
    by_cases e1 : i = len <;> by_cases e2 : i' = len
    · omega
    · subst e1; rw [upd_same, upd_ne _ _ _ _ e2] at e; exact absurd e.symm (hnew i' (by omega))
    · subst e2; rw [upd_same, upd_ne _ _ _ _ e1] at e; exact absurd e (hnew i (by omega))
    · rw [upd_ne _ _ _ _ e1, upd_ne _ _ _ _ e2] at e; exact h.inj i i' (by omega) (by omega) e)
  omega

theorem OrdInv.push {n : Nat} {D : Nat → Int} {q : Nat} {Q : Nat → Nat} {j len : Nat} {O : Nat → Nat} (h : OrdInv n D q Q j len O) (hj : j < n) (hD : D j < 0) : OrdInv n D q Q (j + 1) (len + 1) (upd O len j) := by
  have hnew := h.new hj hD
  have hroom := h.room hj hD
  have e : ∀ i, i < len → upd O len j i = O i := fun i hi => upd_ne _ _ _ _ (by omega)
  have hq := h.qle
  refine ⟨by omega, by omega, fun i hi => by rw [e i (by omega)]; exact h.head i hi, ?_, ?_, ?_, ?_, ?_⟩
  · intro i hi
    by_cases e1 : i = len
    · subst e1; rw [upd_same]; exact hj
    · rw [e i (by omega)]; exact h.on i (by omega)
  · intro i i' hi hi' ee
    by_cases e1 : i = len <;> by_cases e2 : i' = len
    · omega
    · subst e1; rw [upd_same, e i' (by omega)] at ee; exact absurd ee.symm (hnew i' (by omega))
    · subst e2; rw [upd_same, e i (by omega)] at ee; exact absurd ee (hnew i (by omega))
    · rw [e i (by omega), e i' (by omega)] at ee; exact h.inj i i' (by omega) (by omega) ee
  · intro v hv
    constructor
    · rintro ⟨i, hi, hO⟩
      by_cases e1 : i = len
      · subst e1; rw [upd_same] at hO; exact .inr (by omega)
      · rw [e i (by omega)] at hO
        rcases (h.mem v hv).1 ⟨i, by omega, hO⟩ with h1 | h1
        · exact .inl h1
        · exact .inr (by omega)
    · intro hor
      by_cases ev : v = j
      · subst ev; exact ⟨len, by omega, upd_same _ _ _⟩
      · obtain ⟨i, hi, hO⟩ := (h.mem v hv).2 (by rcases hor with h1 | h1; · exact .inl h1
                                                 · exact .inr (by omega))
        exact ⟨i, by omega, by rw [e i hi]; exact hO⟩
  · intro i h1 h2
    by_cases e1 : i = len
    · subst e1; rw [upd_same]; exact ⟨hD, by omega⟩
    · rw [e i (by omega)]; have := h.tail i h1 (by omega); exact ⟨this.1, by omega⟩
  · intro i i' h1 h2 h3
    rw [e i (by omega)]
    by_cases e2 : i' = len
    · subst e2; rw [upd_same]; exact (h.tail i h1 (by omega)).2
    · rw [e i' (by omega)]; exact h.asc i i' h1 h2 (by omega)

/-- What fromMiddle's order is, beside the search from its first. -/
structure Ordered (N : Net) (D : Nat → Int) (q : Nat) (Q : Nat → Nat) (O : Nat → Nat) : Prop where
  head : ∀ i, i < q → O i = Q i
  on : ∀ i, i < N.n → O i < N.n
  inj : ∀ i i', i < N.n → i' < N.n → O i = O i' → i = i'
  tail : ∀ i, q ≤ i → i < N.n → D (O i) < 0
  asc : ∀ i i', q ≤ i → i < i' → i' < N.n → O i < O i'

theorem OrdInv.finish {N : Net} {D : Nat → Int} {q : Nat} {Q : Nat → Nat} {len : Nat} {O : Nat → Nat} (h : OrdInv N.n D q Q N.n len O) : len = N.n ∧ Ordered N D q Q O := by
  have hall : ∀ v, ∃ i, v < N.n → i < len ∧ O i = v := by
    intro v
    by_cases hv : v < N.n
    · obtain ⟨i, hi⟩ := (h.mem v hv).2 (.inr hv)
      exact ⟨i, fun _ => hi⟩
    · exact ⟨0, fun hh => absurd hh hv⟩
  have hlen : N.n ≤ len := by
    let ix := fun v => Classical.choose (hall v)
    have hix : ∀ v, v < N.n → ix v < len ∧ O (ix v) = v := fun v hv => Classical.choose_spec (hall v) hv
    exact pigeon len N.n ix (fun v hv => (hix v hv).1) (fun v v' hv hv' e => by rw [← (hix v hv).2, ← (hix v' hv').2, e])
  have hl := h.lle
  have : len = N.n := by omega
  subst this
  exact ⟨rfl, h.head, h.on, h.inj, fun i h1 h2 => (h.tail i h1 h2).1, h.asc⟩

end Go.Proofs.Qxb6608983a
