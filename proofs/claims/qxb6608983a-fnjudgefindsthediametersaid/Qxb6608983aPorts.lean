import Derived.Test.Qxb6608983aSmall
import Derived.Deep.AppendLies
namespace Go.Proofs.Qxb6608983a
open Go.RowKit
set_option linter.unusedVariables false

theorem Try.info61 : (Try.prog.info? 61).map (fun i => (i.zero, i.size, i.bytes)) = some (some (.agg #[.int .i64 0, .int .i64 0]), 2, 16) := by kernel_rfl
theorem Try.info59 : (Try.prog.info? 59).map (fun i => (i.zero, i.size, i.bytes)) = some (some (.slice none 0 0), 1, 24) := by kernel_rfl

/-- The cells of a list of ports. -/
def flat (X : List (Nat × Nat)) : List Value := X.flatMap fun p => [.int .i64 (p.1 : Int), .int .i64 (p.2 : Int)]
theorem flat_length (X : List (Nat × Nat)) : (flat X).length = X.length * 2 := by
  induction X with
  | nil => rfl
  | cons p r ih => simp only [flat, List.flatMap_cons, List.length_append, List.length_cons, List.length_nil] at ih ⊢; omega
theorem flat_snoc (X : List (Nat × Nat)) (a b : Nat) : flat (X ++ [(a, b)]) = flat X ++ [.int .i64 (a : Int), .int .i64 (b : Int)] := by
  simp [flat]

/-- The ports under way: block bP holds n slices S; each owns its ports X, each in a block of its own. -/
structure PortsSt (w : World) (bP n : Nat) (S : Nat → Value) (X : Nat → List (Nat × Nat)) : Prop where
  row : w.rowIs bP 59 n S
  own : ∀ v, v < n → w.ownsRow (bP + 1) 61 2 (S v) (X v).length (flat (X v))
  apart : ∀ u v, u < n → v < n → u ≠ v → (S u).ownBlock = none ∨ (S u).ownBlock ≠ (S v).ownBlock

theorem ports_step {w : World} {bP n : Nat} {S : Nat → Value} {X : Nat → List (Nat × Nat)} (h : PortsSt w bP n S X) (a b l : Nat) (ha : a < n) (hX : (X a).length ≤ 1048576) :
    ∃ g cap w2, (Builtin.append_ #[59, 59] 59 #[S a, .slice (some ⟨w.heap.size, 0, none⟩) 1 1]).run Try.prog (w.alloc (.cells #[.int .i64 (b : Int), .int .i64 (l : Int)] 61)) = .ok (.slice (some ⟨g, 0, none⟩) ((X a).length + 1) cap) w2 ∧
      w2.cell? ⟨bP, a, none⟩ = some (S a) ∧ w2.frozen? ⟨bP, a, none⟩ = false ∧ Below bP w w2 ∧
      PortsSt (w2.setCell ⟨bP, a, none⟩ (.slice (some ⟨g, 0, none⟩) ((X a).length + 1) cap)) bP n (fun u => if u = a then .slice (some ⟨g, 0, none⟩) ((X a).length + 1) cap else S u) (fun u => if u = a then X a ++ [(b, l)] else X u) := by
  obtain ⟨i, hi, hz, hs, hb⟩ := info_parts Try.info61
  have hbP := h.row.lt
  have own1 := (h.own a ha).alloc (.cells #[.int .i64 (b : Int), .int .i64 (l : Int)] 61)
  have hlt1 : (w.alloc (.cells #[.int .i64 (b : Int), .int .i64 (l : Int)] 61)).heap.size = w.heap.size + 1 := by simp
  obtain ⟨g, cap, w2, hrun, hown, hgrow, hat, hglt⟩ := run_append_lies (P := Try.prog) (w.alloc (.cells #[.int .i64 (b : Int), .int .i64 (l : Int)] 61)) 59 59 (bP + 1) 61 i _ 2 16 Try.underlying59 hi hz hs hb rfl (by decide)
    (S a) (X a).length (flat (X a)) own1 ⟨w.heap.size, 0, none⟩ 1 1 [.int .i64 (b : Int), .int .i64 (l : Int)] rfl (by
      intro j u hu
      rw [Addr.add_lit, Nat.zero_add]
      have hc : (w.alloc (.cells #[.int .i64 (b : Int), .int .i64 (l : Int)] 61)).cell? ⟨w.heap.size, j, none⟩ = #[Value.int .i64 (b : Int), .int .i64 (l : Int)][j]? := by
        unfold World.cell?
        rw [heap_new]
        simp
      rw [hc]
      simpa using hu) (by intro u hu; simp at hu; rcases hu with rfl | rfl <;> rfl) (by omega) (by unfold maxLen; omega) (by omega) (by rw [hlt1]; omega) _ rfl
  have hne : ∀ k, (S a).ownBlock = some k → k ≠ bP := by
    intro k hk
    have := (h.own a ha).lt k hk
    omega
  have hblkP : w2.heap[bP]? = w.heap[bP]? := by
    rw [hgrow.block bP (by rw [hlt1]; omega) (fun e => hne bP e.symm rfl)]
    exact Below.heap_alloc _ _ _ hbP
  have row2 : w2.rowIs bP 59 n S := h.row.of_block hblkP
  refine ⟨g, cap, w2, hrun, row2.cell ha, row2.frozen a, ?_, ?_⟩
  · refine ⟨hgrow.os, hgrow.tape, hgrow.output, by have := hgrow.size; rw [hlt1] at this; omega, fun k hk => ?_⟩
    rw [hgrow.block k (by rw [hlt1]; omega) (fun e => by have := (h.own a ha).lt k e.symm; omega)]
    exact Below.heap_alloc _ _ _ (by omega)
  · have hgb : g ≠ bP := by
      rcases hat with hat | hat
      · exact hne g hat
      · rw [hlt1] at hat; omega
    have hgbase : bP + 1 ≤ g := by
      rcases hat with hat | hat
      · exact ((h.own a ha).lt g hat).1
      · rw [hlt1] at hat; omega
    refine ⟨?_, ?_, ?_⟩
    · exact (row2.set a _)
    · intro v hv
      by_cases e : v = a
      · subst e
        simp only [if_true]
        rw [flat_snoc, List.length_append]
        exact ownsRow_setCell_below hown (by simp) _
      · simp only [e, if_false]
        have hap := h.apart v a hv ha e
        have o1 := ((h.own v hv).alloc (.cells #[.int .i64 (b : Int), .int .i64 (l : Int)] 61)).kept hgrow hap
        exact ownsRow_setCell_below o1 (by simp) _
    · intro u v hu hv huv
      have hnew : ∀ x, x < n → x ≠ a → (S x).ownBlock = none ∨ (S x).ownBlock ≠ some g := by
        intro x hx hxa
        rcases hat with hat | hat
        · rcases h.apart x a hx ha hxa with h1 | h1
          · exact .inl h1
          · exact .inr (by rw [hat] at h1; exact h1)
        · cases hq : (S x).ownBlock with
          | none => exact .inl rfl
          | some k =>
            right
            intro e
            have := ((h.own x hx).lt k hq).2
            simp only [Option.some.injEq] at e
            rw [hlt1] at hat; omega
      by_cases e : u = a
      · subst e
        have hva : v ≠ u := fun e => huv e.symm
        simp only [if_true, hva, if_false]
        right
        show some g ≠ (S v).ownBlock
        rcases hnew v hv hva with h1 | h1
        · rw [h1]; simp
        · exact fun e => h1 e.symm
      · by_cases e2 : v = a
        · subst e2
          simp only [if_true, e, if_false]
          rcases hnew u hu e with h1 | h1
          · exact .inl h1
          · exact .inr h1
        · simp only [e, e2, if_false]
          exact h.apart u v hu hv huv

end Go.Proofs.Qxb6608983a
