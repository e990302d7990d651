import Derived.Test.Qxb6608919aSplit
import Derived.Test.Qxb6608919aCopy
namespace Go.Proofs.Qxb6608919a
open Go.RowKit
set_option linter.unusedSimpArgs false

theorem bytes8_yes (a : Option Addr) (n c : Nat) (k x : Int) (w : World) (h : n ≤ 1048576) :
    Calls Try.prog 8 #[.slice a n c, .int .i64 k, .int .i64 x] w fun e w' => e = .returned (.bool true) ∧ w = w' := by
  go_enter Try.func8, Try.ntmps8
  go_wp2
  go_ret
  exact ⟨rfl, rfl⟩
theorem bytes8_no (a : Option Addr) (n c : Nat) (k x : Int) (w : World) (h : 1048576 < n) :
    Calls Try.prog 8 #[.slice a n c, .int .i64 k, .int .i64 x] w fun e w' => e = .returned (.bool false) ∧ w = w' := by
  go_enter Try.func8, Try.ntmps8
  go_wp2
  go_ret
  exact ⟨rfl, rfl⟩

/-- x put into l at place k. -/
def insL (l : List Int) (k : Nat) (x : Int) : List Int := l.take k ++ x :: l.drop k
theorem insL_length (l : List Int) (k : Nat) (x : Int) : (insL l k x).length = l.length + 1 := by simp [insL]; omega
theorem insL_lt (l : List Int) (k : Nat) (x : Int) (j : Nat) (h : j < k) (hk : k ≤ l.length) : (insL l k x).getD j 0 = l[j] := by
  have h1 : j < l.length := by omega
  have h2 : j < min k l.length := by omega
  simp [insL, List.getD, List.getElem?_append, h, h1, h2]
theorem insL_at (l : List Int) (k : Nat) (x : Int) (hk : k ≤ l.length) : (insL l k x).getD k 0 = x := by
  simp [insL, List.getD, Nat.min_eq_left hk]
theorem insL_gt (l : List Int) (k : Nat) (x : Int) (j : Nat) (h : k ≤ j) (hk : j < l.length) : (insL l k x).getD (j + 1) 0 = l[j] := by
  have e1 : min k l.length = k := by omega
  have e2 : ¬ (j + 1 < k) := by omega
  have e3 : j + 1 - k = (j - k) + 1 := by omega
  have e4 : k + (j - k) = j := by omega
  simp [insL, List.getD, List.getElem?_append, e1, e2, e3, e4, hk]
theorem tot_ins_lt (l : List Int) (k : Nat) (x : Int) (i : Nat) (h : i < k) (hk : k ≤ l.length) : tot ((insL l k x).take (i + 1)) = tot (l.take (i + 1)) := by
  congr 1
  rw [insL, List.take_append_of_le_length (by simp; omega), List.take_take, Nat.min_eq_left (by omega)]
theorem tot_ins_at (l : List Int) (k : Nat) (x : Int) (hk : k ≤ l.length) : tot ((insL l k x).take (k + 1)) = wrap64 (tot (l.take k) + x) := by
  rw [← tot_snoc]
  congr 1
  rw [insL, List.take_append]
  simp [Nat.min_eq_left hk, List.take_take]
theorem tot_ins_gt (l : List Int) (k : Nat) (x : Int) (i : Nat) (h : k ≤ i) (hk : i < l.length) : tot ((insL l k x).take (i + 1 + 1)) = wrap64 (tot (l.take (i + 1)) + x) := by
  have e1 : (insL l k x).take (i + 1 + 1) = l.take k ++ x :: (l.drop k).take (i + 1 - k) := by
    rw [insL, List.take_append]
    have e2 : i + 1 + 1 - (l.take k).length = (i + 1 - k) + 1 := by simp; omega
    rw [e2, List.take_take, Nat.min_eq_right (by omega)]
    simp
  have e3 : l.take (i + 1) = l.take k ++ (l.drop k).take (i + 1 - k) := by
    rw [← List.take_add]; congr 1; omega
  rw [e1, e3, tot_sum, tot_sum, wrap_wrap]
  congr 1
  simp
  omega

end Go.Proofs.Qxb6608919a
