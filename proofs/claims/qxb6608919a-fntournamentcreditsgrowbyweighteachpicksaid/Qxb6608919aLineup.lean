import Derived.Test.Qxb6608919aBase
import Derived.Deep.OwnRows
import Derived.Deep.LoopGhost
import Derived.BigQuiet
namespace Go.Proofs.Qxb6608919a
open Go.RowKit

theorem Try.info3 : (Try.prog.info? 3).map (fun i => (i.zero, i.size, i.bytes)) = some (some (.int .i64 0), 1, 8) := by kernel_rfl

/-- The wrapped total of a list. -/
def tot (l : List Int) : Int := l.foldl (fun t x => wrap64 (t + x)) 0
theorem tot_snoc (l : List Int) (x : Int) : tot (l ++ [x]) = wrap64 (tot l + x) := by simp [tot]
theorem tot_take (l : List Int) (k : Nat) (h : k < l.length) : tot (l.take (k + 1)) = wrap64 (tot (l.take k) + l[k]) := by
  rw [List.take_succ_eq_append_getElem h, tot_snoc]

theorem wrap_wrap (a b : Int) : wrap64 (wrap64 a + b) = wrap64 (a + b) := by unfold wrap64; omega
theorem wrap_wrap' (a b : Int) : wrap64 (a + wrap64 b) = wrap64 (a + b) := by unfold wrap64; omega
theorem fold_tot (l : List Int) : ∀ t, l.foldl (fun t x => wrap64 (t + x)) (wrap64 t) = wrap64 (t + l.sum) := by
  induction l with
  | nil => intro t; simp
  | cons x r ih => intro t; simp only [List.foldl_cons, List.sum_cons]; rw [wrap_wrap, ih, Int.add_assoc]
theorem tot_sum (l : List Int) : tot l = wrap64 l.sum := by
  have := fold_tot l 0
  simpa [tot, wrap64] using this
theorem tot_append (l r : List Int) : tot (l ++ r) = wrap64 (tot r + tot l) := by
  rw [tot_sum, tot_sum, tot_sum, wrap_wrap, wrap_wrap', List.sum_append, Int.add_comm]
theorem tot_split (l : List Int) (k j : Nat) : tot (l.take (k + j + 1)) = wrap64 (tot ((l.drop k).take (j + 1)) + tot (l.take k)) := by
  rw [← tot_append]
  congr 1
  rw [show k + j + 1 = k + (j + 1) by omega, List.take_add]

/-- What a slice value of n elements reads as: the numbers l. -/
def IntsAt (w : World) (a : Option Addr) (l : List Int) : Prop :=
  ∀ i (h : i < l.length), ∃ b off, a = some ⟨b, off, none⟩ ∧ b < w.heap.size ∧ w.cell? ⟨b, off + i, none⟩ = some (.int .i64 l[i])

set_option maxHeartbeats 400000 in
theorem newLineup_any (a : Option Addr) (n c : Nat) (l : List Int) (w : World) (hn : n ≤ 70000) (hl : l.length = n) (hc : IntsAt w a l) :
    Calls Try.prog 11 #[.slice a n c] w fun e w' => e = .returned (.agg #[.slice (some ⟨w.heap.size + 1, 0, none⟩) n n]) ∧ Below w.heap.size w w' ∧ w'.heap.size = w.heap.size + 2 ∧
      w'.rowIs (w.heap.size + 1) 3 n (fun i => .int .i64 (tot (l.take (i + 1)))) := by
  have hmk := run_make_row' (P := Try.prog) 22 3 (.int .i64 0) 8 Try.underlying22 Try.info3 rfl .i64 .i64 n (by omega) (by omega)
  go_enter Try.func11, Try.ntmps11
  go_wp2
  go_loopg [4, 12] n (fun g t i wr => ∃ k : Nat, k + g = n ∧ i = .int .i64 k ∧ t = .int .i64 (tot (l.take k)) ∧ Below w.heap.size w wr ∧ wr.heap.size = w.heap.size + 2 ∧
    wr.rowIs w.heap.size 30 1 (fun _ => .slice none 0 0) ∧
    wr.rowIs (w.heap.size + 1) 3 n (fun i => if i < k then .int .i64 (tot (l.take (i + 1))) else .int .i64 0))
  case atStart =>
    refine ⟨0, by omega, rfl, by simp [tot], ((Below.refl _ _).alloc (Nat.le_refl _) _).alloc (by simp) _, by simp, ?_, ?_⟩
    · exact (World.rowIs_alloc w #[.slice none 0 0] 30 (fun _ => .slice none 0 0) (by intro i hi; simp at hi; subst hi; rfl)).alloc _
    · have := World.rowIs_made (w.alloc (.cells #[.slice none 0 0] 30)) (.int .i64 0) n 3
      simp only [Nat.not_lt_zero, if_false]
      simpa using this
  case round =>
    obtain ⟨k, hk, rfl, rfl, hb, hs, hr1, hr2⟩ := hrel
    by_cases hlt : k < n
    · obtain ⟨b, off, rfl, hbl, hcell⟩ := hc k (by omega)
      have hcell' : wr.cell? ⟨b, off + k, none⟩ = some (.int .i64 l[k]) := by rw [hb.cell hbl]; exact hcell
      have hfr := hr2.frozen k
      have hce := hr2.cell hlt
      have hT : Hid (tot (l.take (k + 1)) = wrap64 (tot (l.take k) + l[k])) := tot_take l k (by omega)
      go_wp2
      go_roundg (gk - 1)
      case measure => omega
      case rel =>
        refine ⟨k + 1, by omega, by go_num, by rw [hT.out], hb.setCell (by simp) _, by simpa [World.setCell] using hs, hr1.setOther (by simp) _, ?_⟩
        refine (hr2.set k _).congr ?_
        intro i hi
        by_cases e : i = k
        · subst e; simp [hT.out]
        · simp only [e, if_false]
          by_cases e2 : i < k
          · simp [e2, show i < k + 1 by omega]
          · simp [e2, show ¬ i < k + 1 by omega]
    · have hfr := hr1.frozen 0
      have hce := hr1.cell (i := 0) (by omega)
      have hke : k = n := by omega
      have hr3 := hr2.congr (g := fun i => .int .i64 (tot (l.take (i + 1)))) (by intro i hi; simp [show i < k by omega])
      clear hke
      go_wp2
      have hlt2 := hr1.lt
      refine bodyPost_ret (v := .agg #[.slice (some ⟨w.heap.size + 1, 0, none⟩) n n]) ?_ rfl ⟨rfl, hb.setCell (Nat.le_refl _) _, by simpa [World.setCell] using hs, hr3.setOther (by simp) _⟩
      have hset := (hr1.set 0 (.slice (some ⟨w.heap.size + 1, 0, none⟩) n n)).cell (i := 0) (by omega)
      simp [results, Try.results11, go_sem, hset]
end Go.Proofs.Qxb6608919a
