import Derived.Test.Qxb6608919aCred2
namespace Go.Proofs.Qxb6608919a
open Go.RowKit
set_option linter.unusedVariables false

theorem wrap_bmod (x : Int) : wrap64 x = Int.bmod x 18446744073709551616 := by
  unfold wrap64
  rw [Int.bmod_def]
  split <;> omega

theorem cr_grows (p d wt ba si : Int) : cr (wrap64 (p + d)) wt ba si = wrap64 (cr p wt ba si + wrap64 (d * wt)) := by
  unfold cr
  simp only [wrap_bmod, Int.bmod_add_bmod, Int.add_bmod_bmod, Int.bmod_sub_bmod, Int.bmod_mul_bmod]
  congr 1
  have e : (p + d - si) * wt = (p - si) * wt + d * wt := by rw [← Int.add_mul]; congr 1; omega
  rw [e]; omega

theorem wrap_zero : wrap64 0 = 0 := by simp [wrap64]
theorem cr_still (p wt ba : Int) (h : wrap64 ba = ba) : cr p wt ba p = ba := by
  unfold cr
  rw [Int.sub_self, wrap_zero, Int.zero_mul, wrap_zero, Int.add_zero, h]

theorem copy26 (w : World) (n c : Nat) (ad : Option Addr) (l : List Int) (hl : l.length = n) (hc : IntsAt w ad l) :
    ∃ w', (Builtin.copy_ #[26, 26] 3 #[.slice (some ⟨w.heap.size, 0, none⟩) n n, .slice ad n c]).run Try.prog (w.alloc (.cells (madeCells #[.int .i64 0] n) 2)) = .ok (.int .i64 n) w' ∧
      Row w' w.heap.size 2 (l.map (Value.int .i64)) ∧ Below w.heap.size (w.alloc (.cells (madeCells #[.int .i64 0] n) 2)) w' ∧ w'.heap.size = (w.alloc (.cells (madeCells #[.int .i64 0] n) 2)).heap.size :=
  run_copy_ints (P := Try.prog) (w.alloc (.cells (madeCells #[.int .i64 0] n) 2)) 26 26 3 2 Try.underlying26 size2 w.heap.size n n c ad l hl (madeCells #[.int .i64 0] n) 2 (heap_new _ _) (size_madeCells _ _) (hc.below ((Below.refl _ _).alloc (Nat.le_refl _) _))

set_option maxHeartbeats 2000000 in
set_option maxRecDepth 8000 in
theorem tour_main (p d : Int) (aW aB aS : Option Addr) (n nB nS cW cB cS : Nat) (W B S : List Int) (w : World) (hn : n ≤ 32768) (hnB : nB ≤ 32768) (hnS : nS ≤ 32768) (hW : W.length = n) (hB : B.length = nB) (hS : S.length = nS)
    (iW : IntsAt w aW W) (iB : IntsAt w aB B) (iS : IntsAt w aS S) (hwf : ∀ i (h : i < B.length), wrap64 B[i] = B[i]) :
    Calls Try.prog 5 #[.int .i64 p, .int .i64 d, .slice aW n cW, .slice aB nB cB, .slice aS nS cS] w fun e w' => e = .returned (.bool true) ∧ Below w.heap.size w w' := by
  have hmk := run_make_row' (P := Try.prog) 26 2 (.int .i64 0) 8 Try.underlying26 Try.info2 rfl .i64 .i64 n (by omega) (by omega)
  have hmkB := run_make_row' (P := Try.prog) 26 2 (.int .i64 0) 8 Try.underlying26 Try.info2 rfl .i64 .i64 nB (by omega) (by omega)
  have hmkS := run_make_row' (P := Try.prog) 26 2 (.int .i64 0) 8 Try.underlying26 Try.info2 rfl .i64 .i64 nS (by omega) (by omega)
  have hneq := fun a n c w => run_neq_slice_nil_any (P := Try.prog) w 26 2 a n c 0 0 Try.underlying26
  have hd1 : decide ((32768 : Int) < (n : Int)) = false := decide_eq_false (by omega)
  have hd2 : decide ((32768 : Int) < (nB : Int)) = false := decide_eq_false (by omega)
  have hd3 : decide ((32768 : Int) < (nS : Int)) = false := decide_eq_false (by omega)
  go_enter Try.func5, Try.ntmps5
  go_wp2_with fail
  refine (bytes9_any _ _ _ _ _ _ _ _ _ _ _ _ (by omega) (by omega) (by omega)).mono ?_
  rintro e w' ⟨⟨b, rfl⟩, rfl⟩
  cases b with
  | false =>
    go_wp2
    go_ret
    exact ⟨rfl, Below.refl _ _⟩
  | true =>
    go_upto_if 39 with fail
    go_cut [2] (fun s wc => ∃ a' c', s = .slice a' n c' ∧ IntsAt wc a' W ∧ Below w.heap.size w wc)
    case first =>
      cases aW with
      | none =>
        go_wp2
        go_meet
        case rel => exact ⟨none, _, rfl, iW, Below.refl _ _⟩
      | some ad =>
        obtain ⟨w1, hcp, hrow1, hb1, hs1⟩ := copy26 w n cW (some ad) W hW iW
        clear hs1
        go_wp2
        go_meet
        case rel => exact ⟨_, n, rfl, IntsAt.of_row hrow1, ((Below.refl _ _).alloc (Nat.le_refl _) _).trans hb1⟩
    case rest =>
      obtain ⟨aW', cW', rfl, iW', hb1⟩ := hcut
      have iB1 := iB.below hb1
      have iS1 := iS.below hb1
      clear iW iB iS
      go_upto_if 48 with fail
      go_cut [3] (fun s wd => ∃ a' c', s = .slice a' nB c' ∧ IntsAt wd a' B ∧ Below wc.heap.size wc wd)
      case first =>
        cases aB with
        | none =>
          go_wp2
          go_meet
          case rel => exact ⟨none, _, rfl, iB1, Below.refl _ _⟩
        | some ad =>
          obtain ⟨w1, hcp, hrow1, hb1, hs1⟩ := copy26 wc nB cB (some ad) B hB iB1
          clear hs1
          go_wp2
          go_meet
          case rel => exact ⟨_, nB, rfl, IntsAt.of_row hrow1, ((Below.refl _ _).alloc (Nat.le_refl _) _).trans hb1⟩
      case rest =>
        rename World => wd
        obtain ⟨aB', cB', rfl, iB', hb2⟩ := hcut
        have iW2 := iW'.below hb2
        have iS2 := iS1.below hb2
        clear iW' iB1 iS1
        go_upto_if 57 with fail
        go_cut [4] (fun s we => ∃ a' c', s = .slice a' nS c' ∧ IntsAt we a' S ∧ Below wd.heap.size wd we)
        case first =>
          cases aS with
          | none =>
            go_wp2
            go_meet
            case rel => exact ⟨none, _, rfl, iS2, Below.refl _ _⟩
          | some ad =>
            obtain ⟨w1, hcp, hrow1, hb1, hs1⟩ := copy26 wd nS cS (some ad) S hS iS2
            clear hs1
            go_wp2
            go_meet
            case rel => exact ⟨_, nS, rfl, IntsAt.of_row hrow1, ((Below.refl _ _).alloc (Nat.le_refl _) _).trans hb1⟩
        case rest =>
          rename World => we
          obtain ⟨aS', cS', rfl, iS', hb3⟩ := hcut
          have iW3 := iW2.below hb3
          have iB3 := iB'.below hb3
          have hB3 : Below w.heap.size w we := by
            have s1 := hb1.size
            have s2 := hb2.size
            exact (hb1.trans (hb2.mono (by omega))).trans (hb3.mono (by omega))
          clear iW2 iB' iS2 hneq hmk hmkB hmkS
          by_cases hne : nB = n
          rotate_left
          · have hq : ((nB : Int) != (n : Int)) = true := by simp; omega
            clear hne
            go_wp2
            go_ret
            exact ⟨rfl, hB3⟩
          by_cases hne2 : nS = n
          rotate_left
          · have hq : ((nB : Int) != (n : Int)) = false := by simp; omega
            have hq2 : ((nS : Int) != (n : Int)) = true := by simp; omega
            clear hne hne2
            go_wp2
            go_ret
            exact ⟨rfl, hB3⟩
          clear hB3
          obtain rfl : n = nB := hne.symm
          obtain rfl : n = nS := hne2.symm
          clear hne hne2
          go_wp2_with fail
          refine (zzcred_any n aW' aB' aS' _ _ _ W B S p we (by omega) hW hB hS iW3 iB3 iS').mono ?_
          rintro e w1 ⟨rfl, hb4, hr1⟩
          have hz1 := hr1.lt
          have iW4 := iW3.below hb4
          have iB4 := iB3.below hb4
          have iS4 := iS'.below hb4
          go_wp2_with fail
          refine (zzcred_any n aW' aB' aS' _ _ _ W B S (wrap64 (p + d)) w1 (by omega) hW hB hS iW4 iB4 iS4).mono ?_
          rintro e w2 ⟨rfl, hb5, hr2⟩
          have iW5 := iW4.below hb5
          have iB5 := iB4.below hb5
          have iS5 := iS4.below hb5
          have r1 : w2.rowIs (we.heap.size + 1) 2 n (fun i => .int .i64 (cr p (W.getD i 0) (B.getD i 0) (S.getD i 0))) := hr1.of_block (hb5.block _ (by omega))
          have hB5 : Below w.heap.size w w2 := by
            have s1 := hb1.size
            have s2 := hb2.size
            have s3 := hb3.size
            exact (((hb1.trans (hb2.mono (by omega))).trans (hb3.mono (by omega))).trans (hb4.mono (by omega))).trans (hb5.mono (by omega))
          clear iW3 iB3 iS' iW4 iB4 iS4 hr1 hb1 hb2 hb3 hb4 hb5
          go_wp2
          go_loopg [17] n (fun g v wr => ∃ q : Nat, q + g = n ∧ v = .int .i64 q ∧ ∃ d, wr = w2.drewN d)
          case atStart => exact ⟨0, by omega, rfl, 0, rfl⟩
          case round =>
            obtain ⟨i, hi, rfl, dd, rfl⟩ := hrel
            by_cases hlt : i < n
            · obtain ⟨bW, oW, rfl, _, cellW⟩ := iW5 i (by omega)
              obtain ⟨bB, oB, rfl, _, cellB⟩ := iB5 i (by omega)
              obtain ⟨bS, oS, rfl, _, cellS⟩ := iS5 i (by omega)
              have h1 := r1.cell (i := i) hlt
              have h2 := hr2.cell (i := i) hlt
              have eW : W.getD i 0 = W[i] := by simp [List.getD, show i < W.length by omega]
              have eB : B.getD i 0 = B[i] := by simp [List.getD, show i < B.length by omega]
              have eS : S.getD i 0 = S[i] := by simp [List.getD, show i < S.length by omega]
              rw [eW, eB, eS] at h1 h2
              have hst := cr_still p W[i] B[i] (hwf i (by omega))
              have hgr := cr_grows p d W[i] B[i] S[i]
              obtain ⟨vW, hvW⟩ : ∃ v, v = W[i] := ⟨_, rfl⟩
              obtain ⟨vB, hvB⟩ : ∃ v, v = B[i] := ⟨_, rfl⟩
              obtain ⟨vS, hvS⟩ : ∃ v, v = S[i] := ⟨_, rfl⟩
              rw [← hvW] at h1 h2 hst hgr cellW
              rw [← hvB] at h1 h2 hst hgr cellB
              rw [← hvS] at h1 h2 hgr cellS
              clear eW eB eS hvW hvB hvS
              obtain ⟨y, hy⟩ : ∃ v, v = cr p vW vB vS := ⟨_, rfl⟩
              obtain ⟨x, hx⟩ : ∃ v, v = cr (wrap64 (p + d)) vW vB vS := ⟨_, rfl⟩
              rw [← hy] at h1 hgr
              rw [← hx] at h2 hgr
              have hcmp : (x != wrap64 (y + wrap64 (d * vW))) = false := by simp [hgr]
              have hlt' : (i : Int) < (n : Int) := by omega
              by_cases hsp : vS = p
              · subst hsp
                have hsb : (vS == vS) = true := by simp
                have hyb : (y != vB) = false := by rw [hy, hst]; simp
                clear hy hx hgr hst
                go_wp2
                go_quiet (fail)
                go_wp2
                go_quiet (fail)
                go_wp2
                go_roundg (gk - 1)
                case measure => omega
                case rel => exact ⟨i + 1, by omega, by go_num, _, rfl⟩
              · have hsb : (vS == p) = false := by simpa using hsp
                clear hy hx hgr hst
                go_wp2
                go_quiet (fail)
                go_wp2
                go_quiet (fail)
                go_wp2
                go_roundg (gk - 1)
                case measure => omega
                case rel => exact ⟨i + 1, by omega, by go_num, _, rfl⟩
            · go_wp2
              go_ret
              exact ⟨rfl, below_drawn hB5 _⟩

end Go.Proofs.Qxb6608919a
