import Derived.Test.Qxb6608919aCopy
import Derived.Test.Qxb6608919aIns2
namespace Go.Proofs.Qxb6608919a
open Go.RowKit
set_option linter.unusedVariables false

theorem Try.info2 : (Try.prog.info? 2).map (fun i => (i.zero, i.size, i.bytes)) = some (some (.int .i64 0), 1, 8) := by kernel_rfl
theorem size2 : (Try.prog.info? 2).map (·.size) = some 1 := by kernel_rfl

/-- One line's credit. -/
def cr (p wt ba si : Int) : Int := wrap64 (ba + wrap64 (wrap64 (p - si) * wt))

set_option maxHeartbeats 400000 in
theorem credit_any (p i n : Nat) (aW aB aS : Option Addr) (cW cB cS : Nat) (W B S : List Int) (picks : Int) (w : World) (hn : n ≤ 70000) (hi : i < n) (hW : W.length = n) (hB : B.length = n) (hS : S.length = n)
    (h0 : w.cell? ⟨p, 0, none⟩ = some (.int .i64 picks)) (h1 : w.cell? ⟨p, 1, none⟩ = some (.slice aW n cW)) (h3 : w.cell? ⟨p, 3, none⟩ = some (.slice aB n cB)) (h4 : w.cell? ⟨p, 4, none⟩ = some (.slice aS n cS))
    (iW : IntsAt w aW W) (iB : IntsAt w aB B) (iS : IntsAt w aS S) :
    Calls Try.prog 13 #[.pointer (some ⟨p, 0, none⟩), .int .i64 i] w fun e w' => e = .returned (.int .i64 (cr picks (W.getD i 0) (B.getD i 0) (S.getD i 0))) ∧ ∃ q, w' = w.drewN q := by
  obtain ⟨bW, oW, rfl, _, cellW⟩ := iW i (by omega)
  obtain ⟨bB, oB, rfl, _, cellB⟩ := iB i (by omega)
  obtain ⟨bS, oS, rfl, _, cellS⟩ := iS i (by omega)
  have eW : W.getD i 0 = W[i] := by simp [List.getD, show i < W.length by omega]
  have eB : B.getD i 0 = B[i] := by simp [List.getD, show i < B.length by omega]
  have eS : S.getD i 0 = S[i] := by simp [List.getD, show i < S.length by omega]
  rw [eW, eB, eS]
  clear eW eB eS iW iB iS
  have hi' : (i : Int) < (n : Int) := by omega
  go_enter Try.func13, Try.ntmps13
  go_wp2
  go_quiet (fail)
  go_wp2
  go_ret
  exact ⟨rfl, _, rfl⟩
/-- What lies behind a tournament's pointer. -/
structure TourAt (w : World) (p n : Nat) (aW aB aS : Option Addr) (cW cB cS : Nat) (W B S : List Int) (picks : Int) : Prop where
  hW : W.length = n
  hB : B.length = n
  hS : S.length = n
  h0 : w.cell? ⟨p, 0, none⟩ = some (.int .i64 picks)
  h1 : w.cell? ⟨p, 1, none⟩ = some (.slice aW n cW)
  h3 : w.cell? ⟨p, 3, none⟩ = some (.slice aB n cB)
  h4 : w.cell? ⟨p, 4, none⟩ = some (.slice aS n cS)
  lt : p < w.heap.size
  iW : IntsAt w aW W
  iB : IntsAt w aB B
  iS : IntsAt w aS S

theorem TourAt.below {w w' : World} {p n : Nat} {aW aB aS : Option Addr} {cW cB cS : Nat} {W B S : List Int} {picks : Int} (h : TourAt w p n aW aB aS cW cB cS W B S picks) (hb : Below w.heap.size w w') :
    TourAt w' p n aW aB aS cW cB cS W B S picks :=
  ⟨h.hW, h.hB, h.hS, (hb.cell h.lt).trans h.h0, (hb.cell h.lt).trans h.h1, (hb.cell h.lt).trans h.h3, (hb.cell h.lt).trans h.h4, Nat.lt_of_lt_of_le h.lt hb.size, h.iW.below hb, h.iB.below hb, h.iS.below hb⟩

set_option maxHeartbeats 400000 in
theorem credits_any (p n : Nat) (aW aB aS : Option Addr) (cW cB cS : Nat) (W B S : List Int) (picks : Int) (w : World) (hn : n ≤ 70000) (hT : TourAt w p n aW aB aS cW cB cS W B S picks) :
    Calls Try.prog 12 #[.pointer (some ⟨p, 0, none⟩)] w fun e w' => e = .returned (.slice (some ⟨w.heap.size, 0, none⟩) n n) ∧ Below w.heap.size w w' ∧
      w'.rowIs w.heap.size 2 n (fun i => .int .i64 (cr picks (W.getD i 0) (B.getD i 0) (S.getD i 0))) := by
  have hmk := run_make_row' (P := Try.prog) 26 2 (.int .i64 0) 8 Try.underlying26 Try.info2 rfl .i64 .i64 n (by omega) (by omega)
  have g1 := hT.h1
  go_enter Try.func12, Try.ntmps12
  go_wp2
  go_loopg [13] n (fun g i wr => ∃ k : Nat, k + g = n ∧ i = .int .i64 k ∧ Below w.heap.size w wr ∧
    wr.rowIs w.heap.size 2 n (fun i => if i < k then .int .i64 (cr picks (W.getD i 0) (B.getD i 0) (S.getD i 0)) else .int .i64 0))
  case atStart =>
    refine ⟨0, by omega, rfl, (Below.refl _ _).alloc (Nat.le_refl _) _, ?_⟩
    simp only [Nat.not_lt_zero, if_false]
    exact World.rowIs_made w (.int .i64 0) n 2
  case round =>
    clear g1 hmk
    obtain ⟨k, hk, rfl, hb, hr⟩ := hrel
    by_cases hlt : k < n
    · have hT' := hT.below hb
      have hfr := hr.frozen k
      have hce := hr.cell hlt
      go_wp2_with (go_at_call 13; refine (credit_any p k n aW aB aS cW cB cS W B S picks _ hn hlt hT'.hW hT'.hB hT'.hS hT'.h0 hT'.h1 hT'.h3 hT'.h4 hT'.iW hT'.iB hT'.iS).mono ?_; rintro e w' ⟨rfl, q, rfl⟩)
      go_roundg (gk - 1)
      case measure => omega
      case rel => exact ⟨k + 1, by omega, by go_num, (below_drawn hb q).setCell (Nat.le_refl _) _, row_step (w := wr.drewN q) (F := fun i => .int .i64 (cr picks (W.getD i 0) (B.getD i 0) (S.getD i 0))) hr rfl⟩
    · have hr3 := hr.congr (g := fun i => .int .i64 (cr picks (W.getD i 0) (B.getD i 0) (S.getD i 0))) (by intro i hi; simp [show i < k by omega])
      go_wp2
      go_ret
      exact ⟨rfl, hb, hr3⟩

end Go.Proofs.Qxb6608919a
