import Derived.Test.Qxb6608983aMake
namespace Go.Proofs.Qxb6608983a
open Go.RowKit
set_option linter.unusedVariables false
set_option linter.unusedSimpArgs false

set_option maxHeartbeats 400000 in
theorem newSurvey_any (pw : Option Addr) (al au af ao : Option Addr) (ml cl nu cu nf cf no co : Nat) (d : Int) (w : World) :
    Calls Try.prog 14 #[.pointer pw, .slice al ml cl, .slice au nu cu, .slice af nf cf, .slice ao no co, .int .i64 d] w fun e w' => e = .returned (.pointer (some ⟨w.heap.size, 0, none⟩)) ∧ Below w.heap.size w w' ∧
      ∃ f, w'.rowIs w.heap.size 68 17 f ∧ f 0 = .pointer pw ∧ f 1 = .slice al ml cl ∧ f 8 = .slice au nu cu ∧ f 9 = .slice af nf cf ∧ f 10 = .slice ao no co ∧ f 16 = .int .i64 d := by
  go_enter Try.func14, Try.ntmps14
  go_wp2
  go_ret
  refine ⟨rfl, (Below.refl _ _).alloc (Nat.le_refl _) _, _, World.rowIs_alloc w _ 68 (fun i => [Value.pointer pw, .slice al ml cl, .int .i64 0, .int .i64 0, .int .i64 0, .slice none 0 0, .slice none 0 0, .pointer none, .slice au nu cu, .slice af nf cf, .slice ao no co,
    .slice none 0 0, .slice none 0 0, .int .i64 0, .int .i64 0, .int .i64 0, .int .i64 d].getD i (.bool false)) ?_, rfl, rfl, rfl, rfl, rfl, rfl⟩
  intro i hi
  simp at hi
  simp [List.getD, hi]

end Go.Proofs.Qxb6608983a
