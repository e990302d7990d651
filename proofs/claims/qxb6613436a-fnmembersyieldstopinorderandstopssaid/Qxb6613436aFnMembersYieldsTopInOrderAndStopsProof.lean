/-
  'Rows.FnMembersYieldsTopInOrderAndStopsSaid', proved.
-/
import Derived.Test.Qxb6613436aMlaw
import Derived.ProofKit
import Derived.OpenShut
import Derived.ShutString
import Derived.ChangeOld
import Derived.Deep.SlicePairs
namespace Go.Proofs.Qxb6613436a.fnMembersYieldsTopInOrderAndStops
open Go.ChangeShapes Go.WideShapes Go.ChangeAt Go.RowKit Go.Deep
set_option linter.unusedVariables false

theorem own : ownKnob Try.prog.godebug = none := by kernel_rfl
theorem laidOut : laidOutB Try.prog = true := by kernel_rfl

theorem cell_lt {w : World} {a : Addr} {v : Value} (h : w.cell? a = some v) : a.block < w.heap.size := by
  unfold World.cell? at h
  cases hq : w.heap[a.block]? with
  | none => simp [hq] at h
  | some o => exact (Array.getElem?_eq_some_iff.1 hq).1

theorem at_of_cells {w : World} {x : Addr} {len : Nat} {f : Nat → Value} (h : ∀ i, i < len → w.cell? (x.add i) = some (f i)) : At w.heap.size w (some x) len f := by
  intro i hi
  have hc := h i hi
  obtain ⟨b, off, spot⟩ := x
  have hs : spot = none := by
    have := World.cell?_spot (h 0 (by omega))
    simpa [Addr.add] using this
  subst hs
  rw [Addr.add_lit] at hc
  exact ⟨b, off, rfl, cell_lt hc, hc⟩

theorem bytes_of {H : Type} {enc : TypeId × Value → H} {W : World} {v : Value} {fuel : Nat} {x : DataW H × List MemPlace} (h : DataW.trod enc Try.prog W 0 (fun _ => true) true fuel 27 [v] = some x) : Bytes W.heap.size W v := by
  rcases open_ints Try.underlying27 Try.underlying5 (by kernel_rfl) h with ⟨hcs, _⟩ | ⟨x, l, c, zs, hcs, _, hl, hm, hz, _, hcell, hwz⟩
  · simp at hcs
    exact ⟨none, 0, 0, fun _ => 0, hcs, by unfold maxLen; omega, fun i hi => by omega⟩
  · simp at hcs
    simp only [if_true] at hz
    exact ⟨some x, l, c, fun i => zs.getD i 0, hcs, by omega, at_of_cells (fun i hi => hcell i (by omega))⟩

theorem open_members {H : Type} {enc : TypeId × Value → H} {W : World} {a : Option Addr} {len cap : Nat} {d : DataW H} {p : List MemPlace}
    (h : DataW.Trod enc Try.prog W 0 (fun _ => true) true 23 (.slice a len cap) d p) : ∃ K V : Nat → Value, MemAt W.heap.size W a len K V ∧ len ≤ maxLen := by
  obtain ⟨fuel, hf⟩ := h
  rcases open_slice_pairs Try.underlying23 Try.underlying29 (by kernel_rfl) rfl rfl (by kernel_rfl) (by kernel_rfl) hf with ⟨hcs, _⟩ | ⟨x, l, c, m, n, V0, V1, D0, D1, P0, P1, hcs, _, hl, hm, hmm, _, hx⟩
  · simp [Value.cells] at hcs
    obtain ⟨rfl, rfl, rfl⟩ := hcs
    exact ⟨fun _ => undef, fun _ => undef, fun i hi => by omega, by unfold maxLen; omega⟩
  · simp [Value.cells] at hcs
    obtain ⟨rfl, rfl, rfl⟩ := hcs
    simp only [if_true] at hmm
    refine ⟨V0, V1, fun i hi => ?_, by omega⟩
    obtain ⟨h1, h2, h3, h4⟩ := hx i (by omega)
    obtain ⟨b, off, spot⟩ := x
    have hs : spot = none := by
      have := World.cell?_spot ((hx 0 (by omega)).1)
      simpa [Addr.add] using this
    subst hs
    rw [Addr.add_lit] at h1 h2
    exact ⟨b, off, rfl, cell_lt h1, h1, by rw [Nat.add_assoc]; exact h2, bytes_of h3, bytes_of h4⟩

set_option maxHeartbeats 400000 in
theorem walk (a : Option Addr) (n cap : Nat) (st : Int) (K V : Nat → Value) (w : World) (hn : n ≤ maxLen) (h : MemAt w.heap.size w a n K V) :
    Calls Try.prog 4 #[.slice a n cap, .int .i64 st] w fun e w' => e = .returned (.bool true) ∧ Below w.heap.size w w' := by
  by_cases hn1 : n ≤ 1048576
  · exact mlaw_main a n cap st K V w hn1 h
  · go_enter Try.func4, Try.ntmps4
    go_wp2_with fail
    refine (bytes7_any a n cap st K V w.heap.size w hn h).mono ?_
    rintro e w' ⟨⟨b, rfl, hb⟩, rfl⟩
    have hb' : b = false := by
      cases b with
      | false => rfl
      | true => exact absurd (hb rfl) hn1
    subst hb'
    clear hb
    go_wp2
    go_ret
    exact ⟨rfl, Below.refl _ _⟩

set_option maxRecDepth 100000 in
theorem lifted (os : Os) (started : os.Started) (H : Type) (enc : TypeId × Value → H) :
    ReturnsInHanded {} Try.checked os 4 .any (Rows.fnMembersYieldsTopInOrderAndStopsSpec.pre6 enc Try.prog Try.f4 Rows.fnMembersYieldsTopInOrderAndStopsRow.domain false) (Rows.fnMembersYieldsTopInOrderAndStopsSpec.post enc Try.prog Try.f4 false true false false) := by
  refine returnsInHanded_of_change (C := Try.checked) own started (by kernel_rfl) Try.func4
    (ChangeSpec.witness6 (enc := enc) (C := Try.checked) false ⟨#[], #[.slice none 0 0, .int .i64 0], []⟩ 8 (by kernel_rfl) (by kernel_rfl) (by kernel_rfl) (by kernel_rfl)) ?_
  intro W base args ds gs before hval0 hW hcnd _
  have hval : ∀ (j : Nat) t v, Try.f4.params[j]? = some t → args[j]? = some v → Value.okWide Try.prog W .any base t v := hval0
  have hW' := hW
  obtain ⟨p, q, hA0, hV, rfl, hfz, hnd⟩ := hW
  have hA : DataW.TrodAll enc Try.prog W 0 (fun _ => true) true Try.f4.params.toList args.toList ds p := hA0
  rw [Try.params4] at hA hval
  obtain ⟨v0, vs0, d0, ds0, p0, q0, hargs, rfl, rfl, h0, r0⟩ := trodAll_cons hA
  obtain ⟨v1, vs1, d1, ds1, p1, q1, rfl, rfl, rfl, h1, r1⟩ := trodAll_cons r0
  obtain ⟨rfl, rfl, rfl⟩ := trodAll_nil r1
  obtain rfl : args = #[v0, v1] := by cases args; simp_all
  obtain ⟨rfl, rfl⟩ := trodVars_none hV
  obtain ⟨a0, len0, cap0, rfl⟩ := okWide_slice Try.underlying23 (hval 0 23 v0 rfl rfl)
  have lt0 : ∀ x ∈ p0, x.block < W.heap.size := by obtain ⟨m, hm⟩ := h0; exact DataW.trod_lt m _ _ _ hm
  obtain ⟨K, V, w0, m0⟩ := open_members h0
  obtain ⟨a1, rfl, rfl, rfl, w1⟩ := open_int Try.underlying3 (hval 1 3 v1 rfl rfl) h1
  clear hA0 hval0
  refine (walk a0 len0 cap0 a1 K V W m0 w0).mono fun e W' ⟨he, bel⟩ => ?_
  subst he
  exact ⟨_, rfl, _, _, _, [], _, [], hW', trodAll_mk1 (shut_bool Try.underlying4 _), (trodAll_cons_mk (Below.trod laidOut (by kernel_rfl) (of_decide_eq_true (by kernel_rfl)) h0 bel lt0) (trodAll_cons_mk (shut_int Try.underlying3 w1) trodAll_mk0)), rfl, bel.frame _, fun h => by cases h⟩

theorem over : Rows.fnMembersYieldsTopInOrderAndStopsRow.holds Try.pinned (OpenSpec.ofChange Rows.fnMembersYieldsTopInOrderAndStopsSpec) :=
  OpenClaim.holds_of_wide 4 Try.f4 rfl rfl rfl rfl rfl rfl rfl ⟨rfl, rfl, rfl, rfl, rfl⟩ rfl rfl rfl rfl rfl (by kernel_rfl) Try.func4 (by kernel_rfl)
    (of_decide_eq_true (by kernel_rfl)) (by unfold Func.isWrapper; first | (rw [if_pos (by decide +kernel)]; kernel_rfl) | (rw [if_neg (by decide +kernel)]; exact ⟨rfl, rfl⟩))
    (fun os started H enc _ => lifted os started H enc)

theorem proved : Rows.FnMembersYieldsTopInOrderAndStopsSaid := over
end Go.Proofs.Qxb6613436a.fnMembersYieldsTopInOrderAndStops
