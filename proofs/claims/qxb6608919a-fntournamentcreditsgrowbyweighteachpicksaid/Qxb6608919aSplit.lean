import Derived.Test.Qxb6608919aLineup
import Derived.Deep.DeepCutAuto
import Derived.Laws.CopyOwn
import Derived.WalkSpells
namespace Go.Proofs.Qxb6608919a
open Go.RowKit

theorem field30 (v : Value) (w : World) : (Instr.field 30 (.agg #[v]) 0).run Try.prog w = .ok v w := by kernel_rfl

theorem ends_any (a : Option Addr) (n c : Nat) (l : List Int) (w : World) (hn : n ≤ 70000) (hl : l.length = n) (hc : IntsAt w a l) :
    Calls Try.prog 7 #[.slice a n c] w fun e w' => e = .returned (.slice (some ⟨w.heap.size + 1, 0, none⟩) n n) ∧ Below w.heap.size w w' ∧ w'.heap.size = w.heap.size + 2 ∧
      w'.rowIs (w.heap.size + 1) 3 n (fun i => .int .i64 (tot (l.take (i + 1)))) := by
  have hfd := field30
  go_enter Try.func7, Try.ntmps7
  go_wp2_with (go_at_call 11; refine (newLineup_any a n c l _ hn hl hc).mono ?_; rintro e w' ⟨rfl, hb, hs, hr⟩)
  go_ret
  exact ⟨rfl, hb, hs, hr⟩

theorem bytes6_yes (a : Option Addr) (n c : Nat) (k : Int) (w : World) (h : n ≤ 1048576) :
    Calls Try.prog 6 #[.slice a n c, .int .i64 k] w fun e w' => e = .returned (.bool true) ∧ w = w' := by
  go_enter Try.func6, Try.ntmps6
  go_wp2
  go_ret
  exact ⟨rfl, rfl⟩
theorem bytes6_no (a : Option Addr) (n c : Nat) (k : Int) (w : World) (h : 1048576 < n) :
    Calls Try.prog 6 #[.slice a n c, .int .i64 k] w fun e w' => e = .returned (.bool false) ∧ w = w' := by
  go_enter Try.func6, Try.ntmps6
  go_wp2
  go_ret
  exact ⟨rfl, rfl⟩
end Go.Proofs.Qxb6608919a
