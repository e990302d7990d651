import Derived.Test.Qxb6608983aBase
import Derived.OrdersHeld
namespace Go.Proofs.Qxb6608983a
open Go.RowKit
set_option linter.unusedVariables false
set_option linter.unusedSimpArgs false

/-! ### Several makes in one region that draws its order -/

def setAll (listed : Array Bool) : List Nat → Array Bool
  | [] => listed
  | i :: r => setAll (listed.setIfInBounds i true) r
def putAll (ops : Array Oper) (vs : Nat → Value) (a : Act) : List Nat → Act
  | [] => a
  | i :: r => putAll ops vs (a.put ((ops[i]?).bind (·.dst)) (vs i)) r

theorem setAll_erase {i : Nat} : ∀ (r : List Nat) (listed : Array Bool), i ∈ r → setAll listed r = setAll (listed.setIfInBounds i true) (r.erase i) := by
  intro r
  induction r with
  | nil => intro listed h; cases h
  | cons k r ih =>
    intro listed h
    by_cases e : k = i
    · subst e; simp [setAll]
    · have hi : i ∈ r := by simpa [Ne.symm e] using h
      have hne : (k == i) = false := by simpa using e
      rw [List.erase_cons, hne]
      simp only [Bool.false_eq_true, if_false, setAll]
      rw [ih _ hi, Array.setIfInBounds_comm _ _ e]

theorem putAll_erase {ops : Array Oper} {vs : Nat → Value} {i : Nat} : ∀ (r : List Nat) (a : Act), i ∈ r → (∀ j ∈ r, j ≠ i → ∀ d, (ops[j]?).bind (·.dst) = some d → (ops[i]?).bind (·.dst) ≠ some d) →
    putAll ops vs a r = putAll ops vs (a.put ((ops[i]?).bind (·.dst)) (vs i)) (r.erase i) := by
  intro r
  induction r with
  | nil => intro a h; cases h
  | cons k r ih =>
    intro a h hd
    by_cases e : k = i
    · subst e; simp [putAll]
    · have hi : i ∈ r := by simpa [Ne.symm e] using h
      have hne : (k == i) = false := by simpa using e
      rw [List.erase_cons, hne]
      simp only [Bool.false_eq_true, if_false, putAll]
      rw [ih _ hi (fun j hj => hd j (List.mem_cons_of_mem _ hj)), Act.put_comm a _ _ (hd k (by simp) e)]

theorem putAll_congr {ops : Array Oper} {vs vs' : Nat → Value} : ∀ (r : List Nat) (a : Act), (∀ i ∈ r, vs i = vs' i) → putAll ops vs a r = putAll ops vs' a r := by
  intro r
  induction r with
  | nil => intro a _; rfl
  | cons k r ih =>
    intro a h
    simp only [putAll]
    rw [h k (by simp)]
    exact ih _ (fun i hi => h i (List.mem_cons_of_mem _ hi))

/-- In state a, in every world that meets S, operation i leaves a value that bears Sh, and a world that meets S. -/
def Makes (P : Program) (ops : Array Oper) (S : World → Prop) (Sh : Value → Prop) (i : Nat) (a : Act) : Prop :=
  ∃ o, ops[i]? = some o ∧ o.guard = none ∧ (∀ cs b, o.op ≠ .select cs b) ∧ ∀ w, S w → ∃ v w', (execOp a.eval o).run P w = .ok (.value v) w' ∧ Sh v ∧ S w'

theorem Makes.step {P : Program} {ops : Array Oper} {S : World → Prop} {Sh : Value → Prop} {Q : Exit → Act → World → Prop} {i : Nat} {a : Act} {w : World} {K : Act → World → Prop} (h : Makes P ops S Sh i a) (hS : S w)
    (hK : ∀ v w', Sh v → S w' → K (a.put ((ops[i]?).bind (·.dst)) v) w') : wpOp P ops Q i K a w := by
  obtain ⟨o, ho, hg, _, hrun⟩ := h
  obtain ⟨v, w', hr, hv, hw'⟩ := hrun w hS
  have hwant : Region.wanted o (yielded ops a.tmps) = true := by simp [Region.wanted, hg]
  have hk := hK v w' hv hw'
  rw [ho] at hk
  unfold wpOp
  simp only [ho, hwant, if_true]
  refine .inl ?_
  unfold Oper.wp
  rw [hr]
  exact hk

theorem Makes.put {P : Program} {ops : Array Oper} {S : World → Prop} {Sh : Value → Prop} {i : Nat} {a : Act} (h : Makes P ops S Sh i a) {dst : Option Tmp} (v : Value) (hd : ∀ o, ops[i]? = some o → ∀ d, dst = some d → d ∉ o.looksAt ops) : Makes P ops S Sh i (a.put dst v) := by
  obtain ⟨o, ho, hg, hs, hrun⟩ := h
  refine ⟨o, ho, hg, hs, ?_⟩
  rw [execOp_put o hs a dst v (hd o ho)]
  exact hrun

/-- Whatever order the makes of rem come in: their values are letters that bear Sh. -/
theorem any_makes {P : Program} {md : Region.Mode} {ops : Array Oper} {Q : Exit → Act → World → Prop} {S : World → Prop} {Sh : Value → Prop} : ∀ (k : Nat) (rem : List Nat) (listed : Array Bool) (a : Act) (w : World) (fuel : Nat), rem.length = k → rem.Nodup →
    (∀ i ∈ rem, i ∈ Region.ready md ops listed) →
    (∀ j oj, ops[j]? = some oj → listed.getD j true = false → j ∉ rem → (∃ e ∈ oj.after, Region.binds md e = true ∧ listed.getD e.on false = false ∧ e.on ∉ rem) ∨ (∀ i ∈ rem, ∃ e ∈ oj.after, Region.binds md e = true ∧ e.on = i)) →
    (∀ i ∈ rem, ∀ j ∈ rem, i ≠ j → ∀ oi oj, ops[i]? = some oi → ops[j]? = some oj → oi.apart ops oj = true) →
    (∀ i ∈ rem, Makes P ops S Sh i a) → S w →
    (∀ vs w', (∀ i, Sh (vs i)) → S w' → wpAnyH P md ops Q S fuel (setAll listed rem) (putAll ops vs a rem) w') → (∃ v0, Sh v0) →
    wpAnyH P md ops Q S (k + fuel) listed a w := by
  intro k
  induction k with
  | zero =>
    intro rem listed a w fuel hk _ _ _ _ _ hS h ⟨v0, hv0⟩
    obtain rfl : rem = [] := List.length_eq_zero_iff.1 hk
    rw [Nat.zero_add]
    exact h (fun _ => v0) w (fun _ => hv0) hS
  | succ k ih =>
    intro rem listed a w fuel hk hnd hR hB hA hM hS h hv0
    rw [Nat.succ_add]
    have hne : ∃ i, i ∈ rem := by
      cases rem with
      | nil => simp at hk
      | cons i r => exact ⟨i, by simp⟩
    refine ⟨fun h0 => ?_, fun i hi => ?_⟩
    · obtain ⟨i, hi⟩ := hne
      have := hR i hi
      rw [h0] at this
      cases this
    · have him : i ∈ rem := by
        by_cases hc : i ∈ rem
        · exact hc
        · obtain ⟨hun, oi, hoi, hall⟩ := mem_ready.1 hi
          rcases hB i oi hoi hun hc with ⟨e, he, hb, hl, _⟩ | hall2
          · have := hall e he hb
            rw [hl] at this
            cases this
          · obtain ⟨i0, hi0⟩ := hne
            obtain ⟨e, he, hb, heq⟩ := hall2 i0 hi0
            have h1 := hall e he hb
            have h2 := (mem_ready.1 (hR i0 hi0)).1
            rw [heq] at h1
            rcases Nat.lt_or_ge i0 listed.size with h' | h'
            · simp [h'] at h1 h2
              rw [h2] at h1; cases h1
            · simp [Array.getElem?_eq_none h'] at h1
      refine (hM i him).step hS ?_
      intro v w' hv hw'
      have her : ∀ j, j ∈ rem.erase i → j ∈ rem ∧ j ≠ i := by
        intro j hj
        exact ⟨List.mem_of_mem_erase hj, fun e => by subst e; exact (List.Nodup.not_mem_erase hnd) hj⟩
      obtain ⟨oi, hoi, _, _, _⟩ := hM i him
      refine ⟨hw', ih (rem.erase i) _ _ w' fuel (by rw [List.length_erase_of_mem him, hk]; rfl) (hnd.erase i) ?_ ?_ ?_ ?_ hw' ?_ hv0⟩
      · intro j hj
        exact ready_mono (hR j (her j hj).1) (her j hj).2
      · intro j oj hoj hun hnot
        have hji : j ≠ i := by
          intro e
          subst e
          have hlt := (mem_ready.1 hi).1
          rcases Nat.lt_or_ge j listed.size with h' | h'
          · simp [h'] at hun
          · simp [Array.getElem?_eq_none h'] at hlt
        rw [getD_set_ne true (Ne.symm hji)] at hun
        have hnr : j ∉ rem := fun hc => hnot ((List.mem_erase_of_ne hji).2 hc)
        rcases hB j oj hoj hun hnr with ⟨e, he, hb, hl, hn⟩ | hall
        · refine .inl ⟨e, he, hb, ?_, fun hc => hn (her _ hc).1⟩
          rw [getD_set_ne false (fun e2 => hn (by rw [← e2]; exact him))]
          exact hl
        · exact .inr fun i' hi' => hall i' (her i' hi').1
      · intro x hx y hy
        exact hA x (her x hx).1 y (her y hy).1
      · intro j hj
        obtain ⟨hjr, hji⟩ := her j hj
        refine (hM j hjr).put v ?_
        intro oj hoj d hd
        rw [hoi] at hd
        exact (Oper.apart_spec (hA i him j hjr (Ne.symm hji) oi oj hoi hoj)).1 d hd
      · intro vs w2 hvs hw2
        have := h (fun j => if j = i then v else vs j) w2 (by intro j; show Sh (if j = i then v else vs j); split <;> simp_all) hw2
        rw [setAll_erase rem listed him, putAll_erase rem a him ?_] at this
        · simp only [if_true] at this
          rw [putAll_congr (vs' := vs) (rem.erase i) _ (by intro j hj; simp [(her j hj).2])] at this
          exact this
        · intro j hj hji d hd hd2
          obtain ⟨oj, hoj, _, _, _⟩ := hM j hj
          rw [hoj] at hd
          rw [hoi] at hd2
          exact (Oper.apart_spec (hA j hj i him hji oj oi hoj hoi)).2.1 d hd hd2

/-- The same, its conditions as Bools. -/
def mk1 (md : Region.Mode) (ops : Array Oper) (listed : Array Bool) (rem : List Nat) : Bool :=
  (rem.all fun i => (Region.ready md ops listed).contains i) &&
  ((List.range ops.size).all fun j => listed.getD j true || rem.contains j || (((ops[j]?).map fun oj => (oj.after.any fun e => Region.binds md e && !listed.getD e.on false && !rem.contains e.on) || rem.all fun i => oj.after.any fun e => Region.binds md e && e.on == i).getD false)) &&
  (rem.all fun i => rem.all fun j => i == j || (match ops[i]?, ops[j]? with | some oi, some oj => oi.apart ops oj | _, _ => false)) &&
  decide rem.Nodup

theorem any_makes' {P : Program} {md : Region.Mode} {ops : Array Oper} {Q : Exit → Act → World → Prop} {S : World → Prop} (Sh : Value → Prop) (rem : List Nat) {listed : Array Bool} {a : Act} {w : World} (fuel : Nat) (hk : mk1 md ops listed rem = true)
    (hM : ∀ i ∈ rem, Makes P ops S Sh i a) (hS : S w) (hv0 : ∃ v0, Sh v0)
    (h : ∀ vs w', (∀ i, Sh (vs i)) → S w' → wpAnyH P md ops Q S fuel (setAll listed rem) (putAll ops vs a rem) w') : wpAnyH P md ops Q S (rem.length + fuel) listed a w := by
  unfold mk1 at hk
  simp only [Bool.and_eq_true, decide_eq_true_eq] at hk
  obtain ⟨⟨⟨h1, h2⟩, h3⟩, h4⟩ := hk
  refine any_makes rem.length rem listed a w fuel rfl h4 ?_ ?_ ?_ hM hS h hv0
  · intro i hi
    have := (List.all_eq_true.1 h1) i hi
    simpa using this
  · intro j oj hoj hun hnr
    have hlt : j < ops.size := (Array.getElem?_eq_some_iff.1 hoj).1
    have := (List.all_eq_true.1 h2) j (List.mem_range.2 hlt)
    rw [hun, hoj] at this
    have hnc : rem.contains j = false := by simpa using hnr
    rw [hnc] at this
    simp only [Bool.false_or, Option.map_some, Option.getD_some, Bool.or_eq_true] at this
    rcases this with h5 | h5
    · rw [Array.any_eq_true] at h5
      obtain ⟨x, hx, h6⟩ := h5
      simp only [Bool.and_eq_true, Bool.not_eq_true'] at h6
      refine .inl ⟨_, Array.getElem_mem hx, h6.1.1, h6.1.2, by simpa using h6.2⟩
    · refine .inr fun i hi => ?_
      have h6 := (List.all_eq_true.1 h5) i hi
      rw [Array.any_eq_true] at h6
      obtain ⟨x, hx, h7⟩ := h6
      simp only [Bool.and_eq_true, beq_iff_eq] at h7
      exact ⟨_, Array.getElem_mem hx, h7.1, h7.2⟩
  · intro i hi j hj hij oi oj hoi hoj
    have := (List.all_eq_true.1 ((List.all_eq_true.1 h3) i hi)) j hj
    rw [hoi, hoj] at this
    have hne : (i == j) = false := by simpa using hij
    rw [hne] at this
    simpa using this

end Go.Proofs.Qxb6608983a
