/-
  'Rows.FnTournamentCreditsGrowByWeightEachPickSaid', proved: the frame is the given shell's; the walk is ours.
-/
import Derived.Test.Qxb6608919aTour
import Derived.WalkKit
import Derived.ProofKit
import Derived.OpenShut
import Derived.ShutString
import Derived.ChangeOld
import Derived.Below
namespace Go.Proofs.Qxb6608919a.fnTournamentCreditsGrowByWeightEachPick
open Go.ChangeShapes Go.WideShapes Go.ChangeAt Go.RowKit
open Go.ChangeMaps (open_string shut_string)
set_option linter.unusedVariables false

theorem own : ownKnob Try.prog.godebug = none := by kernel_rfl
theorem laidOut : laidOutB Try.prog = true := by kernel_rfl

/-- WHAT THE WALK IS TOLD OF A SLICE OF INTEGERS THAT CAME IN: it is nil; or it leads to a row of 'cap' cells, the numbers 'zs' (the first 'len' are its elements, the rest its spare room), each fitting its kind. -/
def IsRow (k : IntKind) (w : World) (a : Option Addr) (len cap : Nat) (zs : List Int) : Prop :=
  (a = none ∧ len = 0 ∧ cap = 0 ∧ zs = []) ∨
  ∃ x, a = some x ∧ len ≤ cap ∧ cap ≤ maxLen ∧ zs.length = cap ∧ (∀ i, i < zs.length → w.cell? (x.add i) = some (.int k (zs.getD i 0))) ∧ ∀ n ∈ zs, (Lit.int k n).wf = true

theorem IsRow.ints {w : World} {a : Option Addr} {len cap : Nat} {zs : List Int} (h : IsRow .i64 w a len cap zs) : len ≤ cap ∧ (zs.take len).length = len ∧ IntsAt w a (zs.take len) ∧ len ≤ maxLen := by
  rcases h with ⟨rfl, rfl, rfl, rfl⟩ | ⟨x, rfl, h1, h2, h3, h4, _⟩
  · exact ⟨Nat.le_refl _, rfl, fun i hi => by simp at hi, by unfold maxLen; omega⟩
  · refine ⟨h1, by simp; omega, fun i hi => ?_, by omega⟩
    simp at hi
    have hc := h4 i (by omega)
    obtain ⟨b, off, spot⟩ := x
    have hs : spot = none := by
      have := World.cell?_spot (h4 0 (by omega))
      simpa [Addr.add] using this
    subst hs
    rw [Addr.add_lit] at hc
    refine ⟨b, off, rfl, ?_, ?_⟩
    · obtain ⟨_, hb⟩ : ∃ o, w.heap[b]? = some o := by
        unfold World.cell? at hc
        cases hq : w.heap[b]? with
        | none => simp [hq] at hc
        | some o => exact ⟨o, rfl⟩
      exact (Array.getElem?_eq_some_iff.1 hb).1
    · rw [hc]; simp [List.getD, show i < zs.length by omega]

theorem walk (a0 : Int) (a1 : Int) (a2 : Option Addr) (len2 cap2 : Nat) (z2 : List Int) (a3 : Option Addr) (len3 cap3 : Nat) (z3 : List Int) (a4 : Option Addr) (len4 cap4 : Nat) (z4 : List Int) (w : World) (w0 : (Lit.int .i64 a0).wf = true) (w1 : (Lit.int .i64 a1).wf = true) (w2 : IsRow .i64 w a2 len2 cap2 z2) (w3 : IsRow .i64 w a3 len3 cap3 z3) (w4 : IsRow .i64 w a4 len4 cap4 z4) :
    Calls Try.prog 5 #[.int .i64 a0, .int .i64 a1, .slice a2 len2 cap2, .slice a3 len3 cap3, .slice a4 len4 cap4] w fun e w' => e = .returned (.bool true) ∧ Below w.heap.size w w' := by
  obtain ⟨h1, h2, h3, h4⟩ := w2.ints
  obtain ⟨k1, k2, k3, k4⟩ := w3.ints
  obtain ⟨m1, m2, m3, m4⟩ := w4.ints
  have hwf : ∀ i (h : i < (z3.take len3).length), wrap64 (z3.take len3)[i] = (z3.take len3)[i] := by
    intro i hi
    rcases w3 with ⟨_, _, _, rfl⟩ | ⟨_, _, _, _, _, _, hz⟩
    · simp at hi
    · have hm := hz _ (List.mem_of_mem_take (List.getElem_mem hi))
      have hb := bounds_i64 hm
      exact IntWalk.wrap64_in _ ⟨hb.1, hb.2⟩
  unfold maxLen at h4 k4 m4
  by_cases c1 : 32768 < len2
  · have hd1 : decide ((32768 : Int) < (len2 : Int)) = true := decide_eq_true (by omega)
    go_enter Try.func5, Try.ntmps5
    go_wp2_with fail
    refine (bytes9_any _ _ _ _ _ _ _ _ _ _ _ _ (by omega) (by omega) (by omega)).mono ?_
    rintro e w' ⟨⟨b, rfl⟩, rfl⟩
    cases b <;> (go_wp2; go_ret; exact ⟨rfl, Below.refl _ _⟩)
  have hd1 : decide ((32768 : Int) < (len2 : Int)) = false := decide_eq_false (by omega)
  by_cases c2 : 32768 < len3
  · have hd2 : decide ((32768 : Int) < (len3 : Int)) = true := decide_eq_true (by omega)
    go_enter Try.func5, Try.ntmps5
    go_wp2_with fail
    refine (bytes9_any _ _ _ _ _ _ _ _ _ _ _ _ (by omega) (by omega) (by omega)).mono ?_
    rintro e w' ⟨⟨b, rfl⟩, rfl⟩
    cases b <;> (go_wp2; go_ret; exact ⟨rfl, Below.refl _ _⟩)
  have hd2 : decide ((32768 : Int) < (len3 : Int)) = false := decide_eq_false (by omega)
  by_cases c3 : 32768 < len4
  · have hd3 : decide ((32768 : Int) < (len4 : Int)) = true := decide_eq_true (by omega)
    go_enter Try.func5, Try.ntmps5
    go_wp2_with fail
    refine (bytes9_any _ _ _ _ _ _ _ _ _ _ _ _ (by omega) (by omega) (by omega)).mono ?_
    rintro e w' ⟨⟨b, rfl⟩, rfl⟩
    cases b <;> (go_wp2; go_ret; exact ⟨rfl, Below.refl _ _⟩)
  exact tour_main a0 a1 a2 a3 a4 len2 len3 len4 cap2 cap3 cap4 (z2.take len2) (z3.take len3) (z4.take len4) w (by omega) (by omega) (by omega) h2 k2 m2 h3 k3 m3 hwf

/-! ### THE ROW's STEP: WRITTEN OUT: LEAVE IT -/
set_option maxRecDepth 100000 in
theorem lifted (os : Os) (started : os.Started) (H : Type) (enc : TypeId × Value → H) :
    ReturnsInHanded {} Try.checked os 5 .any (Rows.fnTournamentCreditsGrowByWeightEachPickSpec.pre6 enc Try.prog Try.f5 Rows.fnTournamentCreditsGrowByWeightEachPickRow.domain false) (Rows.fnTournamentCreditsGrowByWeightEachPickSpec.post enc Try.prog Try.f5 false true false false) := by
  refine returnsInHanded_of_change (C := Try.checked) own started (by kernel_rfl) Try.func5
    (ChangeSpec.witness6 (enc := enc) (C := Try.checked) false ⟨#[], #[.int .i64 0, .int .i64 0, .slice none 0 0, .slice none 0 0, .slice none 0 0], []⟩ 8 (by kernel_rfl) (by kernel_rfl) (by kernel_rfl) (by kernel_rfl)) ?_
  intro W base args ds gs before hval0 hW hcnd _
  have hval : ∀ (j : Nat) t v, Try.f5.params[j]? = some t → args[j]? = some v → Value.okWide Try.prog W .any base t v := hval0
  have hW' := hW
  obtain ⟨p, q, hA0, hV, rfl, hfz, hnd⟩ := hW
  have hA : DataW.TrodAll enc Try.prog W 0 (fun _ => true) true Try.f5.params.toList args.toList ds p := hA0
  rw [Try.params5] at hA hval
  obtain ⟨v0, vs0, d0, ds0, p0, q0, hargs, rfl, rfl, h0, r0⟩ := trodAll_cons hA
  obtain ⟨v1, vs1, d1, ds1, p1, q1, rfl, rfl, rfl, h1, r1⟩ := trodAll_cons r0
  obtain ⟨v2, vs2, d2, ds2, p2, q2, rfl, rfl, rfl, h2, r2⟩ := trodAll_cons r1
  obtain ⟨v3, vs3, d3, ds3, p3, q3, rfl, rfl, rfl, h3, r3⟩ := trodAll_cons r2
  obtain ⟨v4, vs4, d4, ds4, p4, q4, rfl, rfl, rfl, h4, r4⟩ := trodAll_cons r3
  obtain ⟨rfl, rfl, rfl⟩ := trodAll_nil r4
  obtain rfl : args = #[v0, v1, v2, v3, v4] := by cases args; simp_all
  obtain ⟨rfl, rfl⟩ := trodVars_none hV
  obtain ⟨a0, rfl, rfl, rfl, w0⟩ := open_int Try.underlying2 (hval 0 2 v0 rfl rfl) h0
  obtain ⟨a1, rfl, rfl, rfl, w1⟩ := open_int Try.underlying2 (hval 1 2 v1 rfl rfl) h1
  obtain ⟨a2, len2, cap2, rfl⟩ := okWide_slice Try.underlying26 (hval 2 26 v2 rfl rfl)
  have k2 := h2
  have lt2 : ∀ x ∈ p2, x.block < W.heap.size := by obtain ⟨m, hm⟩ := k2; exact DataW.trod_lt m _ _ _ hm
  obtain ⟨z2, w2⟩ : ∃ zs, IsRow .i64 W a2 len2 cap2 zs := by
    obtain ⟨fuel, hf⟩ := h2
    rcases open_ints Try.underlying26 Try.underlying2 (by kernel_rfl) hf with ⟨hcs, _⟩ | ⟨x, l, c, zs, hcs, _, hl, hm, hz, _, hcell, hwz⟩
    · simp [Value.cells] at hcs
      obtain ⟨rfl, rfl, rfl⟩ := hcs
      exact ⟨[], .inl ⟨rfl, rfl, rfl, rfl⟩⟩
    · simp [Value.cells] at hcs
      obtain ⟨rfl, rfl, rfl⟩ := hcs
      exact ⟨zs, .inr ⟨_, rfl, hl, hm, by simpa using hz, hcell, hwz⟩⟩
  obtain ⟨a3, len3, cap3, rfl⟩ := okWide_slice Try.underlying26 (hval 3 26 v3 rfl rfl)
  have k3 := h3
  have lt3 : ∀ x ∈ p3, x.block < W.heap.size := by obtain ⟨m, hm⟩ := k3; exact DataW.trod_lt m _ _ _ hm
  obtain ⟨z3, w3⟩ : ∃ zs, IsRow .i64 W a3 len3 cap3 zs := by
    obtain ⟨fuel, hf⟩ := h3
    rcases open_ints Try.underlying26 Try.underlying2 (by kernel_rfl) hf with ⟨hcs, _⟩ | ⟨x, l, c, zs, hcs, _, hl, hm, hz, _, hcell, hwz⟩
    · simp [Value.cells] at hcs
      obtain ⟨rfl, rfl, rfl⟩ := hcs
      exact ⟨[], .inl ⟨rfl, rfl, rfl, rfl⟩⟩
    · simp [Value.cells] at hcs
      obtain ⟨rfl, rfl, rfl⟩ := hcs
      exact ⟨zs, .inr ⟨_, rfl, hl, hm, by simpa using hz, hcell, hwz⟩⟩
  obtain ⟨a4, len4, cap4, rfl⟩ := okWide_slice Try.underlying26 (hval 4 26 v4 rfl rfl)
  have k4 := h4
  have lt4 : ∀ x ∈ p4, x.block < W.heap.size := by obtain ⟨m, hm⟩ := k4; exact DataW.trod_lt m _ _ _ hm
  obtain ⟨z4, w4⟩ : ∃ zs, IsRow .i64 W a4 len4 cap4 zs := by
    obtain ⟨fuel, hf⟩ := h4
    rcases open_ints Try.underlying26 Try.underlying2 (by kernel_rfl) hf with ⟨hcs, _⟩ | ⟨x, l, c, zs, hcs, _, hl, hm, hz, _, hcell, hwz⟩
    · simp [Value.cells] at hcs
      obtain ⟨rfl, rfl, rfl⟩ := hcs
      exact ⟨[], .inl ⟨rfl, rfl, rfl, rfl⟩⟩
    · simp [Value.cells] at hcs
      obtain ⟨rfl, rfl, rfl⟩ := hcs
      exact ⟨zs, .inr ⟨_, rfl, hl, hm, by simpa using hz, hcell, hwz⟩⟩
  clear hA0 hval0
  refine (walk a0 a1 a2 len2 cap2 z2 a3 len3 cap3 z3 a4 len4 cap4 z4 W w0 w1 w2 w3 w4).mono fun e W' ⟨he, bel⟩ => ?_
  subst he
  exact ⟨_, rfl, _, _, _, [], _, [], hW', trodAll_mk1 (shut_bool Try.underlying4 _), (trodAll_cons_mk (shut_int Try.underlying2 w0) (trodAll_cons_mk (shut_int Try.underlying2 w1) (trodAll_cons_mk (Below.trod laidOut (by kernel_rfl) (of_decide_eq_true (by kernel_rfl)) k2 bel lt2) (trodAll_cons_mk (Below.trod laidOut (by kernel_rfl) (of_decide_eq_true (by kernel_rfl)) k3 bel lt3) (trodAll_cons_mk (Below.trod laidOut (by kernel_rfl) (of_decide_eq_true (by kernel_rfl)) k4 bel lt4) trodAll_mk0))))), rfl, bel.frame _, fun h => by cases h⟩

theorem over : Rows.fnTournamentCreditsGrowByWeightEachPickRow.holds Try.pinned (OpenSpec.ofChange Rows.fnTournamentCreditsGrowByWeightEachPickSpec) :=
  OpenClaim.holds_of_wide 5 Try.f5 rfl rfl rfl rfl rfl rfl rfl ⟨rfl, rfl, rfl, rfl, rfl⟩ rfl rfl rfl rfl rfl (by kernel_rfl) Try.func5 (by kernel_rfl)
    (of_decide_eq_true (by kernel_rfl)) (by unfold Func.isWrapper; first | (rw [if_pos (by decide +kernel)]; kernel_rfl) | (rw [if_neg (by decide +kernel)]; exact ⟨rfl, rfl⟩))
    (fun os started H enc _ => lifted os started H enc)

/-- ████ THE STATEMENT ████ -/
theorem proved : Rows.FnTournamentCreditsGrowByWeightEachPickSaid := over
end Go.Proofs.Qxb6608919a.fnTournamentCreditsGrowByWeightEachPick
