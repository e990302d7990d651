import Derived.Test.Qxb6608919aCred
namespace Go.Proofs.Qxb6608919a
open Go.RowKit
set_option linter.unusedVariables false

set_option maxHeartbeats 400000 in
theorem zzcred_any (n : Nat) (aW aB aS : Option Addr) (cW cB cS : Nat) (W B S : List Int) (picks : Int) (w : World) (hn : n ≤ 70000) (hW : W.length = n) (hB : B.length = n) (hS : S.length = n)
    (iW : IntsAt w aW W) (iB : IntsAt w aB B) (iS : IntsAt w aS S) :
    Calls Try.prog 10 #[.int .i64 picks, .slice aW n cW, .slice aB n cB, .slice aS n cS] w fun e w' => e = .returned (.slice (some ⟨w.heap.size + 1, 0, none⟩) n n) ∧ Below w.heap.size w w' ∧
      w'.rowIs (w.heap.size + 1) 2 n (fun i => .int .i64 (cr picks (W.getD i 0) (B.getD i 0) (S.getD i 0))) := by
  go_enter Try.func10, Try.ntmps10
  go_wp2_with fail
  refine (credits_any w.heap.size n aW aB aS cW cB cS W B S picks _ hn ?_).mono ?_
  · have hb : Below w.heap.size w (w.alloc (Obj.cells
        #[Value.int IntKind.i64 picks, Value.slice aW n cW, Value.int IntKind.i64 0, Value.slice aB n cB,
          Value.slice aS n cS, Value.int IntKind.i64 0, Value.slice none 0 0, Value.slice none 0 0,
          Value.slice none 0 0] 35)) := (Below.refl _ _).alloc (Nat.le_refl _) _
    have hc : ∀ i, (w.alloc (Obj.cells
        #[Value.int IntKind.i64 picks, Value.slice aW n cW, Value.int IntKind.i64 0, Value.slice aB n cB,
          Value.slice aS n cS, Value.int IntKind.i64 0, Value.slice none 0 0, Value.slice none 0 0,
          Value.slice none 0 0] 35)).cell? ⟨w.heap.size, i, none⟩ = #[Value.int IntKind.i64 picks, Value.slice aW n cW, Value.int IntKind.i64 0, Value.slice aB n cB,
          Value.slice aS n cS, Value.int IntKind.i64 0, Value.slice none 0 0, Value.slice none 0 0,
          Value.slice none 0 0][i]? := by
      intro i
      unfold World.cell?
      rw [heap_new]
      simp
    exact ⟨hW, hB, hS, hc 0, hc 1, hc 3, hc 4, by simp, iW.below hb, iB.below hb, iS.below hb⟩
  · rintro e w' ⟨rfl, hb, hr⟩
    go_wp2
    go_ret
    refine ⟨by simp, ((Below.refl _ _).alloc (Nat.le_refl _) _).trans (hb.mono (by simp)), by simpa using hr⟩

set_option maxHeartbeats 400000 in
theorem bytes9_any (p d : Int) (aW aB aS : Option Addr) (nW nB nS cW cB cS : Nat) (w : World) (hW : nW ≤ 9223372036854775807) (hB : nB ≤ 9223372036854775807) (hS : nS ≤ 9223372036854775807) :
    Calls Try.prog 9 #[.int .i64 p, .int .i64 d, .slice aW nW cW, .slice aB nB cB, .slice aS nS cS] w fun e w' => (∃ b, e = .returned (.bool b)) ∧ w = w' := by
  go_enter Try.func9, Try.ntmps9
  go_wp2
  all_goals
    go_ret
    exact ⟨⟨_, rfl⟩, rfl⟩
end Go.Proofs.Qxb6608919a
