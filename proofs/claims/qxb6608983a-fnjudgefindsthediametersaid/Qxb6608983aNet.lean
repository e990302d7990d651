import Derived.Test.Qxb6608983aMid
import Derived.Test.Qxb6608983aZd
namespace Go.Proofs.Qxb6608983a
open Go.RowKit
set_option linter.unusedVariables false
set_option linter.unusedSimpArgs false

theorem portsOf_mem (f g : Nat → Nat) (v b l : Nat) : ∀ m, (b, l) ∈ portsOf f g m v ↔ l < m ∧ ((f l = v ∧ g l = b) ∨ (g l = v ∧ f l = b)) := by
  intro m
  induction m with
  | zero => simp [portsOf]
  | succ m ih =>
    simp only [portsOf, List.mem_append]
    rw [ih]
    constructor
    · rintro ((⟨h1, h2⟩ | h) | h)
      · exact ⟨by omega, h2⟩
      · split at h
        · simp at h
          obtain ⟨rfl, rfl⟩ := h
          exact ⟨by omega, .inl ⟨by omega, rfl⟩⟩
        · cases h
      · split at h
        · simp at h
          obtain ⟨rfl, rfl⟩ := h
          exact ⟨by omega, .inr ⟨by omega, rfl⟩⟩
        · cases h
    · rintro ⟨h1, h2⟩
      by_cases e : l = m
      · subst e
        rcases h2 with ⟨h2, h3⟩ | ⟨h2, h3⟩
        · refine .inl (.inr ?_)
          rw [if_pos h2.symm, h3]; simp
        · refine .inr ?_
          rw [if_pos h2.symm, h3]; simp
      · exact .inl (.inl ⟨by omega, h2⟩)

/-- The network that the ports make. -/
def netOf (L : Lk) : Net where
  n := L.n
  m := L.m
  PL := fun v => (portsOf L.f L.g L.m v).length
  peer := fun v j => ((portsOf L.f L.g L.m v).getD j (0, 0)).1
  link := fun v j => ((portsOf L.f L.g L.m v).getD j (0, 0)).2
  F := L.F
  C := L.C

theorem netOf_port (L : Lk) (v j : Nat) (hj : j < (netOf L).PL v) : (netOf L).link v j < L.m ∧ ((L.f ((netOf L).link v j) = v ∧ L.g ((netOf L).link v j) = (netOf L).peer v j) ∨ (L.g ((netOf L).link v j) = v ∧ L.f ((netOf L).link v j) = (netOf L).peer v j)) := by
  have hj' : j < (portsOf L.f L.g L.m v).length := hj
  have e : (portsOf L.f L.g L.m v).getD j (0, 0) = (portsOf L.f L.g L.m v)[j] := by simp [List.getD, hj']
  have hm : (portsOf L.f L.g L.m v)[j] ∈ portsOf L.f L.g L.m v := List.getElem_mem hj'
  have := (portsOf_mem L.f L.g v (portsOf L.f L.g L.m v)[j].1 (portsOf L.f L.g L.m v)[j].2 L.m).1 hm
  simp only [netOf, e]
  exact this

theorem netOf_ok (L : Lk) (hf : ∀ i, i < L.m → L.f i < L.n ∧ L.g i < L.n ∧ L.f i ≠ L.g i) : (netOf L).ok := by
  intro v hv j hj
  obtain ⟨h1, h2⟩ := netOf_port L v j hj
  have := hf _ h1
  refine ⟨?_, h1⟩
  show (netOf L).peer v j < L.n
  rcases h2 with ⟨_, h2⟩ | ⟨_, h2⟩ <;> omega

theorem netOf_portOk (L : Lk) : PortOk (netOf L) L.f L.g := fun u _ j hj => (netOf_port L u j hj).2

theorem netOf_E (L : Lk) : ∀ u v, u < (netOf L).n → v < (netOf L).n → (L.E u v ↔ (netOf L).F u = false ∧ ∃ j, j < (netOf L).PL u ∧ (netOf L).peer u j = v ∧ (netOf L).use u j) := by
  intro u v hu hv
  constructor
  · rintro ⟨l, hl, hus, h⟩
    obtain ⟨h1, h2, h3⟩ := (L.us_iff l).1 hus
    have hm : (v, l) ∈ portsOf L.f L.g L.m u := (portsOf_mem L.f L.g u v l L.m).2 ⟨hl, h⟩
    obtain ⟨j, hj, he⟩ := List.getElem_of_mem hm
    have e : (portsOf L.f L.g L.m u).getD j (0, 0) = (v, l) := by simp [List.getD, hj, he]
    refine ⟨?_, j, hj, ?_, ?_, ?_⟩
    · show L.F u = false
      rcases h with ⟨h, _⟩ | ⟨h, _⟩
      · rw [← h]; exact h2
      · rw [← h]; exact h3
    · show ((portsOf L.f L.g L.m u).getD j (0, 0)).1 = v
      rw [e]
    · show L.F ((portsOf L.f L.g L.m u).getD j (0, 0)).1 = false
      rw [e]
      rcases h with ⟨_, h⟩ | ⟨_, h⟩
      · rw [← h]; exact h3
      · rw [← h]; exact h2
    · show L.C ((portsOf L.f L.g L.m u).getD j (0, 0)).2 = false
      rw [e]; exact h1
  · rintro ⟨hF, j, hj, hp, hu1, hu2⟩
    obtain ⟨h1, h2⟩ := netOf_port L u j hj
    have hF' : L.F u = false := hF
    have hu1' : L.F v = false := by rw [← hp]; exact hu1
    have hu2' : L.C ((netOf L).link u j) = false := hu2
    rw [hp] at h2
    refine ⟨(netOf L).link u j, h1, (L.us_iff _).2 ⟨hu2', ?_, ?_⟩, h2⟩
    · rcases h2 with ⟨h2, _⟩ | ⟨_, h2⟩ <;> rw [h2] <;> assumption
    · rcases h2 with ⟨_, h2⟩ | ⟨h2, _⟩ <;> rw [h2] <;> assumption

theorem Lk.E_symm (L : Lk) {u v : Nat} (h : L.E u v) : L.E v u := by
  obtain ⟨l, hl, hu, h⟩ := h
  exact ⟨l, hl, hu, h.elim (fun h => .inr ⟨h.2, h.1⟩) (fun h => .inl ⟨h.2, h.1⟩)⟩

/-- The address and the capacity of a slice value. -/
def addrOf : Value → Option Addr
  | .slice a _ _ => a
  | _ => none
def capOf : Value → Nat
  | .slice _ _ c => c
  | _ => 0

theorem flat_at (X : List (Nat × Nat)) : ∀ (j : Nat), j < X.length → (flat X)[j * 2]? = some (.int .i64 ((X.getD j (0, 0)).1 : Nat)) ∧ (flat X)[j * 2 + 1]? = some (.int .i64 ((X.getD j (0, 0)).2 : Nat)) := by
  induction X with
  | nil => intro j hj; simp at hj
  | cons p r ih =>
    intro j hj
    cases j with
    | zero => simp [flat]
    | succ j =>
      have := ih j (by simpa using hj)
      have e1 : (j + 1) * 2 = j * 2 + 1 + 1 := by omega
      rw [e1]
      simp only [flat, List.flatMap_cons, List.cons_append, List.nil_append, List.getElem?_cons_succ, List.getD_cons_succ] at this ⊢
      exact this

/-- The walk that the laws make. -/
def wkOf (L : Lk) (S : Nat → Value) (bP p : Nat) (aF aC : Option Addr) (cF cC : Nat) : Wk where
  N := netOf L
  p := p
  tp := 58
  np := 6
  bD := p + 1
  bV := p + 2
  bQ := p + 3
  aP := some ⟨bP, 0, none⟩
  aF := aF
  aC := aC
  cP := L.n
  cF := cF
  cC := cC
  PA := fun v => addrOf (S v)
  PC := fun v => capOf (S v)

theorem owns_form {w : World} {base : Nat} {e : TypeId} {size : Nat} {v : Value} {n : Nat} {xs : List Value} (h : w.ownsRow base e size v n xs) : v = .slice (addrOf v) n (capOf v) := by
  rcases h.2 with ⟨rfl, rfl⟩ | ⟨g, cap, cur, rfl, _⟩
  · rfl
  · rfl

theorem stat_of {L : Lk} {S : Nat → Value} {bP p : Nat} {aF aC : Option Addr} {cF cC : Nat} {w : World} (hn : L.n ≤ 4096) (hm : L.m ≤ 4096) (hf : ∀ i, i < L.m → L.f i < L.n ∧ L.g i < L.n ∧ L.f i ≠ L.g i)
    (hP : PortsSt w bP L.n S (portsOf L.f L.g L.m)) (hp : w.heap.size ≤ p) (hF : At p w aF L.n (fun v => .bool (L.F v))) (hC : At p w aC L.m (fun v => .bool (L.C v))) : WkStat (wkOf L S bP p aF aC cF cC) w := by
  refine ⟨netOf_ok L hf, hn, hm, ?_, ?_, ?_, hF, hC, by simp [wkOf], by simp [wkOf], by simp [wkOf], by simp [wkOf]⟩
  · intro v hv
    have := portsOf_length L.f L.g L.m v
    show (portsOf L.f L.g L.m v).length ≤ 10000
    omega
  · have := At.of_rowIs (B := p) hP.row (by have := hP.row.lt; omega)
    refine this.congr ?_
    intro v hv
    exact owns_form (hP.own v hv)
  · intro v hv j hj
    have ho := hP.own v hv
    have hj' : j < (portsOf L.f L.g L.m v).length := hj
    have hform := ho.2
    rcases hform with ⟨h1, h2⟩ | ⟨g, cap, cur, hv', _, hg, _⟩
    · rw [h2] at hj'; omega
    · have hcell := ho.cells (g := g) (by rw [hv']; rfl)
      obtain ⟨f1, f2⟩ := flat_at _ j hj'
      have c1 := hcell (j * 2) _ f1
      have c2 := hcell (j * 2 + 1) _ f2
      rw [Addr.add_lit] at c1 c2
      refine ⟨g, 0, ?_, ?_, c1, ?_⟩
      · show addrOf (S v) = _
        rw [hv']; rfl
      · have := (Array.getElem?_eq_some_iff.1 hg).1
        show g < p
        omega
      · rw [Nat.add_assoc]; exact c2

end Go.Proofs.Qxb6608983a
