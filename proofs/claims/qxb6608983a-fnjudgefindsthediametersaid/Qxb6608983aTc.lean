import Derived.Test.Qxb6608983aTz
namespace Go.Proofs.Qxb6608983a
open Go.RowKit
set_option linter.unusedVariables false
set_option linter.unusedSimpArgs false

theorem cnt_add {m : Nat} {p p1 p2 : Nat → Bool} (h : ∀ k, k < m → (if p k then 1 else 0) = (if p1 k then 1 else 0) + (if p2 k then 1 else 0 : Nat)) : cnt m p = cnt m p1 + cnt m p2 := by
  induction m with
  | zero => rfl
  | succ m ih =>
    simp only [cnt]
    rw [ih (fun k hk => h k (by omega)), h m (by omega)]
    omega

/-- The degree under way: the first l links. -/
def degU (L : Lk) (A : Nat → Bool) (l v : Nat) : Nat := cnt l (fun k => L.us k && A (L.f k) && A (L.g k) && (L.f k == v || L.g k == v))
/-- What the first l links take from v's degree. -/
def dec (L : Lk) (A lf : Nat → Bool) (l v : Nat) : Nat := cnt l (fun k => L.us k && A (L.f k) && A (L.g k) && !lf v && ((L.f k == v && lf (L.g k)) || (L.g k == v && lf (L.f k))))

theorem degU_all (L : Lk) (A : Nat → Bool) (v : Nat) : degU L A L.m v = degA L A v := rfl
theorem degU_succ (L : Lk) (A : Nat → Bool) (l v : Nat) : degU L A (l + 1) v = degU L A l v + if (L.us l && A (L.f l) && A (L.g l) && (L.f l == v || L.g l == v)) then 1 else 0 := rfl
theorem dec_succ (L : Lk) (A lf : Nat → Bool) (l v : Nat) : dec L A lf (l + 1) v = dec L A lf l v + if (L.us l && A (L.f l) && A (L.g l) && !lf v && ((L.f l == v && lf (L.g l)) || (L.g l == v && lf (L.f l)))) then 1 else 0 := rfl
theorem dec_le (L : Lk) (A lf : Nat → Bool) (l v : Nat) : dec L A lf l v ≤ l := cnt_le _ _
theorem degU_le (L : Lk) (A : Nat → Bool) (l v : Nat) : degU L A l v ≤ l := cnt_le _ _

theorem deg_next (L : Lk) (A lf : Nat → Bool) (hf : ∀ i, i < L.m → L.f i < L.n ∧ L.g i < L.n ∧ L.f i ≠ L.g i) (v : Nat) (hA : A v = true) (hl : lf v = false) :
    degA L A v = degA L (fun x => A x && !lf x) v + dec L A lf L.m v := by
  refine cnt_add ?_
  intro k hk
  have hne := (hf k hk).2.2
  by_cases e1 : L.f k = v
  · have e2 : L.g k ≠ v := fun e => hne (e1.trans e.symm)
    rw [e1]
    simp only [hA, hl, Bool.and_true, Bool.not_false, beq_self_eq_true, Bool.true_or, Bool.true_and]
    have e3 : (L.g k == v) = false := by simpa using e2
    rw [e3]
    cases L.us k <;> cases A (L.g k) <;> cases lf (L.g k) <;> simp
  · have e3 : (L.f k == v) = false := by simpa using e1
    rw [e3]
    by_cases e2 : L.g k = v
    · rw [e2]
      simp only [hA, hl, Bool.and_true, Bool.not_false, beq_self_eq_true, Bool.true_or, Bool.true_and]
      cases L.us k <;> cases A (L.f k) <;> cases lf (L.f k) <;> simp
    · have e4 : (L.g k == v) = false := by simpa using e2
      rw [e4]
      simp

theorem cnt_diff {n : Nat} {A lf : Nat → Bool} (h : ∀ v, v < n → lf v = true → A v = true) : cnt n A = cnt n (fun x => A x && !lf x) + cnt n lf := by
  refine cnt_add ?_
  intro k hk
  have := h k hk
  cases ha : A k <;> cases hl : lf k <;> simp_all

/-- The leaves of a round. -/
def lfOf (L : Lk) (A : Nat → Bool) (v : Nat) : Bool := A v && !decide (2 ≤ degA L A v)
theorem left_next (L : Lk) (δ0 : Nat → Int) (r v : Nat) : left L δ0 (r + 1) v = (left L δ0 r v && !lfOf L (left L δ0 r) v) := by
  simp only [left, lfOf]
  cases left L δ0 r v <;> cases decide (2 ≤ degA L (left L δ0 r) v) <;> rfl

theorem deg_bound {r y m : Nat} {x : Int} (h1 : y ≤ m) (hm : m ≤ 4096) (h2 : -((r * 4096 : Nat) : Int) ≤ x ∧ x ≤ 4096) : -(((r + 1) * 4096 : Nat) : Int) ≤ x - (y : Nat) ∧ x - (y : Nat) ≤ 4096 := by
  rw [Nat.succ_mul]
  generalize r * 4096 = q at h2
  omega

theorem row_stepZ {w : World} {b : Nat} {t : TypeId} {n j : Nat} {F Z : Nat → Value} {v : Value} (h : w.rowIs b t n (fun i => if i < j then F i else Z i)) (hv : v = F j) :
    (w.setCell ⟨b, j, none⟩ v).rowIs b t n (fun i => if i < j + 1 then F i else Z i) := by
  refine (h.set j v).congr ?_
  intro i _
  by_cases e : i = j
  · subst e; simp [hv]
  · by_cases e2 : i < j
    · simp [e, e2, Nat.lt_succ_of_lt e2]
    · have e3 : ¬ i < j + 1 := by omega
      simp [e, e2, e3]

set_option maxHeartbeats 2000000 in
set_option maxRecDepth 8000 in
theorem centres_any (L : Lk) (B : Nat) (w : World) (aa ab af ac : Option Addr) (ca cb cf cc : Nat) (δ : Nat → Int) (h : LkAt L B w aa ab af ac) (hB : B ≤ w.heap.size) (hδ : IsDist L.E L.n 0 δ) :
    Calls Try.prog 20 #[.slice aa L.m ca, .slice ab L.m cb, .slice af L.n cf, .slice ac L.m cc] w fun e w' => ∃ bA R, e = .returned (.slice (some ⟨bA, 0, none⟩) L.n L.n) ∧ (∀ r, r < R → 2 < cnt L.n (left L δ r)) ∧ Below w.heap.size w w' ∧
      w'.rowIs bA 4 L.n (fun v => .bool (left L δ R v)) := by
  have hn := h.nle
  have hm := h.mle
  have hn0 : 0 < L.n := hδ.hs
  have hmkb := run_make_row' (P := Try.prog) 23 4 (.bool false) 1 Try.underlying23 Try.info4 rfl .i64 .i64 L.n (by omega) (by omega)
  have hmki := run_make_row' (P := Try.prog) 22 3 (.int .i64 0) 8 Try.underlying22 Try.info3 rfl .i64 .i64 L.n (by omega) (by omega)
  have hzd := zzDist_any L B w _ _ _ _ ca cb cf cc 0 δ h hB hδ
  rw [show (((0 : Nat)) : Int) = 0 from rfl] at hzd
  go_enter Try.func20, Try.ntmps20
  go_wp2_with fail
  refine hzd.mono ?_
  rintro e w1 ⟨rfl, hb1, hr1⟩
  clear hzd
  have hz1 := hr1.lt
  obtain ⟨bd, hbd⟩ : ∃ b, b = w.heap.size := ⟨_, rfl⟩
  rw [← hbd]
  rw [← hbd] at hr1 hz1
  have HBD : Hid (bd = w.heap.size) := hbd
  have hBd : B ≤ bd := by omega
  clear hbd
  obtain ⟨bA, hbA⟩ : ∃ b, b = w1.heap.size := ⟨_, rfl⟩
  have hdA : bd < bA := by omega
  have HBA : Hid (bA = w1.heap.size) := hbA
  have hrA := World.rowIs_made w1 (.bool false) L.n 4
  have hzA : bA < (w1.alloc (.cells (madeCells #[.bool false] L.n) 4)).heap.size := by simp; omega
  go_wp2
  rw [← hbA]
  rw [← hbA] at hrA
  clear hbA
  go_loopg [12, 13] L.n (fun g0 sv iv wr => ∃ j : Nat, j + g0 = L.n ∧ iv = .int .i64 j ∧ sv = .int .i64 (cnt j (left L δ 0) : Nat) ∧ Below bA w1 wr ∧ bA < wr.heap.size ∧ wr.rowIs bA 4 L.n (fun v => if v < j then .bool (left L δ 0 v) else .bool false))
  case atStart =>
    refine ⟨0, by omega, rfl, rfl, (Below.refl _ _).alloc (by rw [HBA.out]; exact Nat.le_refl _) _, hzA, ?_⟩
    simp only [Nat.not_lt_zero, if_false]
    exact hrA
  case round =>
    clear hrA hzA
    obtain ⟨j, hj, rfl, rfl, hb2, hz2, hrA⟩ := hrel
    have hcl := cnt_le j (left L δ 0)
    have hr2 : wr.rowIs bd 3 L.n (fun i => .int .i64 (δ i)) := hr1.of_block (hb2.block _ hdA)
    by_cases hjn : j < L.n
    · have cd := hr2.cell hjn
      have hcs := cnt_succ j (left L δ 0)
      have hlj : left L δ 0 j = decide (0 ≤ δ j) := rfl
      rw [hlj] at hcs
      obtain ⟨c0, hc0⟩ : ∃ c, c = cnt j (left L δ 0) := ⟨_, rfl⟩
      rw [← hc0] at hcl hcs
      rw [← hc0]
      obtain ⟨x, hx⟩ : ∃ x, x = δ j := ⟨_, rfl⟩
      rw [← hx] at cd hcs hlj
      have HC := (show Hid _ from hcs)
      have HL := (show Hid _ from hlj)
      have hfr := hrA.frozen j
      have hce := hrA.cell hjn
      clear hcs hc0 hx hlj hmkb hmki
      by_cases hx0 : 0 ≤ x
      · have e1 : decide (0 ≤ x) = true := decide_eq_true hx0
        have hset := (hrA.set j (.bool true)).cell hjn
        simp only [if_true] at hset
        go_wp2
        go_roundg (gk - 1)
        case measure => omega
        case rel => exact ⟨j + 1, by omega, by go_num, by rw [HC.out, e1]; go_num, hb2.setCell (Nat.le_refl _) _, by rw [size_setCell]; exact hz2, row_step (F := fun v => .bool (left L δ 0 v)) hrA (by rw [HL.out, e1])⟩
      · have e1 : decide (0 ≤ x) = false := decide_eq_false hx0
        have hset := (hrA.set j (.bool false)).cell hjn
        simp only [if_true] at hset
        go_wp2
        go_roundg (gk - 1)
        case measure => omega
        case rel => exact ⟨j + 1, by omega, by go_num, by rw [HC.out, e1]; go_num, hb2.setCell (Nat.le_refl _) _, by rw [size_setCell]; exact hz2, row_step (F := fun v => .bool (left L δ 0 v)) hrA (by rw [HL.out, e1])⟩
    · obtain rfl : j = L.n := by omega
      have hrA2 := hrA.congr (g := fun v => .bool (left L δ 0 v)) (by intro v hv; simp [hv])
      clear hrA hmkb
      go_wp2
      obtain ⟨bG, hbG⟩ : ∃ b, b = wr.heap.size := ⟨_, rfl⟩
      rw [← hbG]
      obtain ⟨c0, hc0⟩ : ∃ c, c = cnt L.n (left L δ 0) := ⟨_, rfl⟩
      rw [← hc0]
      have HC0 : Hid (c0 = cnt L.n (left L δ 0)) := hc0
      have HBG : Hid (bG = wr.heap.size) := hbG
      have hAG : bA < bG := by omega
      have hG0 := World.rowIs_made wr (.int .i64 0) L.n 3
      have hBr : B ≤ wr.heap.size := by omega
      rw [← hbG] at hG0
      have hbw2 : Below B w wr := (hb1.mono (by have := HBD.out; omega)).trans (hb2.mono (by omega))
      have hbB2 : Below bd w wr := (hb1.mono (by have := HBD.out; omega)).trans (hb2.mono (by omega))
      clear hc0 hbG hmki
      go_loopg [15] L.m (fun g0 iv wx => ∃ l : Nat, l + g0 = L.m ∧ iv = .int .i64 l ∧ Below bG wr wx ∧ bG < wx.heap.size ∧ wx.rowIs bG 3 L.n (fun v => .int .i64 (degU L (left L δ 0) l v : Nat)))
      case atStart =>
        refine ⟨0, by omega, rfl, (Below.refl _ _).alloc (by rw [HBG.out]; exact Nat.le_refl _) _, by simp; have := HBG.out; omega, hG0⟩
      case round =>
        clear hG0
        rename World => wy
        obtain ⟨l, hl, rfl, hb3, hz3, hG⟩ := hrel
        have h3 := (h.below hbw2).below (hb3.mono (by omega))
        have hA3 : wy.rowIs bA 4 L.n (fun v => .bool (left L δ 0 v)) := hrA2.of_block (hb3.block _ hAG)
        by_cases hlm : l < L.m
        · obtain ⟨hfa, hga, hfg⟩ := h.fits l hlm
          have hus := usable_any L B wy _ _ _ _ ca cb cf cc l h3 hlm
          obtain ⟨u, hu⟩ : ∃ u, u = L.us l := ⟨_, rfl⟩
          obtain ⟨b1, o1, rfl, _, c1⟩ := h3.A.nat hlm
          obtain ⟨b2, o2, rfl, _, c2⟩ := h3.B'.nat hlm
          rw [← hu] at hus
          have ca1 := hA3.cell hfa
          have ca2 := hA3.cell hga
          have cg1 := hG.cell hfa
          have cg2 := hG.cell hga
          have fr1 := hG.frozen (L.f l)
          have hset2 : ∀ v, (wy.setCell ⟨bG, L.f l, none⟩ v).cell? ⟨bG, L.g l, none⟩ = some (.int .i64 (degU L (left L δ 0) l (L.g l) : Nat)) := by
            intro v
            rw [(hG.set (L.f l) v).cell hga]
            have hgf' : L.g l ≠ L.f l := fun e => hfg e.symm
            simp [hgf']
          have fr2 : ∀ v, (wy.setCell ⟨bG, L.f l, none⟩ v).frozen? ⟨bG, L.g l, none⟩ = false := fun v => (hG.set (L.f l) v).frozen (L.g l)
          have hset1 : ∀ v, (wy.setCell ⟨bG, L.f l, none⟩ v).cell? ⟨b2, o2 + l, none⟩ = some (.int .i64 (L.g l : Nat)) := by
            intro v
            have hne : b2 < bG := by
              obtain ⟨b', o', e', hb', _⟩ := h3.B'.nat hlm
              simp only [Option.some.injEq, Addr.mk.injEq] at e'
              omega
            rw [World.cell?_setCell_other _ _ _ _ (by intro e; injection e with e1; omega)]
            exact c2
          obtain ⟨xa, hxa⟩ : ∃ x, x = left L δ 0 (L.f l) := ⟨_, rfl⟩
          obtain ⟨xb, hxb⟩ : ∃ x, x = left L δ 0 (L.g l) := ⟨_, rfl⟩
          obtain ⟨gf, hgf⟩ : ∃ x, x = degU L (left L δ 0) l (L.f l) := ⟨_, rfl⟩
          obtain ⟨gg, hgg⟩ : ∃ x, x = degU L (left L δ 0) l (L.g l) := ⟨_, rfl⟩
          have bf1 := degU_le L (left L δ 0) l (L.f l)
          have bg1 := degU_le L (left L δ 0) l (L.g l)
          rw [← hxa] at ca1
          rw [← hxb] at ca2
          rw [← hgf] at cg1 bf1
          rw [← hgg] at cg2 bg1
          simp only [← hgg] at hset2
          have hlm' : (l : Int) < (L.m : Int) := by omega
          have hfa' : (L.f l : Int) < (L.n : Int) := by omega
          have hga' : (L.g l : Int) < (L.n : Int) := by omega
          have hup : ∀ v, degU L (left L δ 0) (l + 1) v = degU L (left L δ 0) l v + if (u && xa && xb && (L.f l == v || L.g l == v)) then 1 else 0 := by
            intro v; rw [degU_succ, hu, hxa, hxb]
          have HUP := (show Hid _ from hup)
          have HGF := (show Hid _ from hgf)
          have HGG := (show Hid _ from hgg)
          clear hup hxa hxb hgf hgg hu hfg
          go_wp2_with fail
          refine hus.mono ?_
          rintro e w' ⟨rfl, rfl⟩
          clear hus
          have idle : (u && xa && xb) = false → wy.rowIs bG 3 L.n (fun v => .int .i64 (degU L (left L δ 0) (l + 1) v : Nat)) := by
            intro hc
            refine hG.congr ?_
            intro v _
            rw [HUP.out v, hc]
            simp
          cases u with
          | false =>
            have hid := idle rfl
            clear idle
            go_wp2
            go_roundg (gk - 1)
            case measure => omega
            case rel => exact ⟨l + 1, by omega, by go_num, hb3, hz3, hid⟩
          | true =>
            cases xa with
            | false =>
              have hid := idle rfl
              clear idle
              go_wp2
              go_roundg (gk - 1)
              case measure => omega
              case rel => exact ⟨l + 1, by omega, by go_num, hb3, hz3, hid⟩
            | true =>
              cases xb with
              | false =>
                have hid := idle rfl
                clear idle
                go_wp2
                go_roundg (gk - 1)
                case measure => omega
                case rel => exact ⟨l + 1, by omega, by go_num, hb3, hz3, hid⟩
              | true =>
                clear idle
                go_wp2
                go_roundg (gk - 1)
                case measure => omega
                case rel =>
                  refine ⟨l + 1, by omega, by go_num, (hb3.setCell (Nat.le_refl _) _).setCell (Nat.le_refl _) _, by rw [size_setCell, size_setCell]; exact hz3, ((hG.set (L.f l) (.int .i64 (gf + 1))).set (L.g l) (.int .i64 (gg + 1))).congr ?_⟩
                  intro v _
                  rw [HUP.out v]
                  have hne := (h.fits l hlm).2.2
                  by_cases e1 : v = L.g l
                  · subst e1
                    simp [← HGG.out]
                  · by_cases e2 : v = L.f l
                    · subst e2
                      simp [e1, ← HGF.out]
                    · have e3 : (L.f l == v) = false := by simpa using fun e => e2 e.symm
                      have e4 : (L.g l == v) = false := by simpa using fun e => e1 e.symm
                      simp [e1, e2, e3, e4]
        · obtain rfl : l = L.m := by omega
          have hmkb := run_make_row' (P := Try.prog) 23 4 (.bool false) 1 Try.underlying23 Try.info4 rfl .i64 .i64 L.n (by omega) (by omega)
          obtain ⟨bL, hbL⟩ : ∃ b, b = wy.heap.size := ⟨_, rfl⟩
          have hGL : bG < bL := by omega
          have hL0 := World.rowIs_made wy (.bool false) L.n 4
          have hA4 := hA3.alloc (.cells (madeCells #[.bool false] L.n) 4)
          have hG4 := hG.alloc (.cells (madeCells #[.bool false] L.n) 4)
          have hb4 : Below bd w (wy.alloc (.cells (madeCells #[.bool false] L.n) 4)) := (hbB2.trans (hb3.mono (by omega))).alloc (by omega) _
          go_wp2
          rw [← hbL]
          rw [← hbL] at hL0
          have HBL : Hid (bL = wy.heap.size) := hbL
          rw [HC0.out]
          clear hmkb hbL
          go_loopg [12, 17] L.n (fun g0 sv iv wx => ∃ (r : Nat) (G : Nat → Int) (Y : Nat → Bool), r + g0 = L.n ∧ iv = .int .i64 r ∧ sv = .int .i64 (cnt L.n (left L δ r) : Nat) ∧ (∀ v, -((r * 4096 : Nat) : Int) ≤ G v ∧ G v ≤ 4096) ∧ (∀ v, left L δ r v = true → G v = (degA L (left L δ r) v : Nat)) ∧ (∀ r', r' < r → 2 < cnt L.n (left L δ r')) ∧ Below bd w wx ∧ wx.rowIs bA 4 L.n (fun v => .bool (left L δ r v)) ∧ wx.rowIs bG 3 L.n (fun v => .int .i64 (G v)) ∧ wx.rowIs bL 4 L.n (fun v => .bool (Y v)))
          case atStart =>
            refine ⟨0, fun v => (degU L (left L δ 0) L.m v : Nat), fun _ => false, by omega, rfl, rfl, ?_, ?_, ?_, hb4, hA4, hG4, hL0⟩
            · intro v
              have := degU_le L (left L δ 0) L.m v
              simp only [Nat.zero_mul]
              omega
            · intro v _
              rfl
            · intro r' hr'
              omega
          case round =>
            clear hL0 hA4 hG4 hb4 hA3 hG h3 hz3 hb3 hrA2 hl hj hjn hlm
            rename World => wx
            obtain ⟨r, G, Y, hr, rfl, rfl, hGb, hGd, hpast, hb5, hA5, hG5, hL5⟩ := hrel
            have hrn : r ≤ L.n := by omega
            have hcl5 := cnt_le L.n (left L δ r)
            have hBw5 : Below B w wx := hb5.mono (by omega)
            have h5 := h.below hBw5
            obtain ⟨A, hAe⟩ : ∃ A, A = left L δ r := ⟨_, rfl⟩
            obtain ⟨c, hc⟩ : ∃ c, c = cnt L.n (left L δ r) := ⟨_, rfl⟩
            rw [← hc] at hcl5
            rw [← hc]
            rw [← hAe] at hGd hA5 hc
            have HAE : Hid (A = left L δ r) := hAe
            have HC : Hid (c = cnt L.n A) := hc
            clear hAe hc
            have hend : wx.rowIs bA 4 L.n (fun v => .bool (left L δ r v)) := by rw [← HAE.out]; exact hA5
            have hbend : Below w.heap.size w wx := by rw [← HBD.out]; exact hb5
            by_cases hc2 : 2 < c
            · by_cases hrl : r < L.n
              · go_wp2
                clear hend hbend
                obtain ⟨lf, hlf⟩ : ∃ lf : Nat → Bool, ∀ v, lf v = (A v && decide (G v ≤ 1)) := ⟨_, fun _ => rfl⟩
                have HLF : Hid (∀ v, lf v = (A v && decide (G v ≤ 1))) := hlf
                have hGb' : ∀ v, -16777216 ≤ G v ∧ G v ≤ 4096 := by
                  intro v
                  have := hGb v
                  omega
                clear hlf
                go_loopg [18] L.n (fun g0 iv wz => ∃ p : Nat, p + g0 = L.n ∧ iv = .int .i64 p ∧ Below bL wx wz ∧ wz.rowIs bL 4 L.n (fun v => if v < p then .bool (lf v) else .bool (Y v)))
                case atStart =>
                  refine ⟨0, by omega, rfl, Below.refl _ _, ?_⟩
                  simp only [Nat.not_lt_zero, if_false]
                  exact hL5
                case round =>
                  rename World => wz
                  obtain ⟨p, hp, rfl, hb6, hL6⟩ := hrel
                  have hA6 := hA5.of_block (hb6.block _ (by omega))
                  have hG6 := hG5.of_block (hb6.block _ hGL)
                  by_cases hpn : p < L.n
                  · have ca6 := hA6.cell hpn
                    have cg6 := hG6.cell hpn
                    have fl6 := hL6.frozen p
                    have cl6 := hL6.cell hpn
                    have hlp := HLF.out p
                    have hgp := hGb' p
                    obtain ⟨x, hx⟩ : ∃ x, x = A p := ⟨_, rfl⟩
                    obtain ⟨y, hy⟩ : ∃ y, y = G p := ⟨_, rfl⟩
                    rw [← hx] at ca6 hlp
                    rw [← hy] at cg6 hlp hgp
                    have HLP := (show Hid _ from hlp)
                    clear hlp hx hy
                    cases x with
                    | false =>
                      go_wp2
                      go_roundg (gk - 1)
                      case measure => omega
                      case rel => exact ⟨p + 1, by omega, by go_num, hb6.setCell (Nat.le_refl _) _, row_stepZ (F := fun v => .bool (lf v)) hL6 (by rw [HLP.out]; rfl)⟩
                    | true =>
                      by_cases hy1 : y ≤ 1
                      · have e1 : decide (y ≤ 1) = true := decide_eq_true hy1
                        go_wp2
                        go_roundg (gk - 1)
                        case measure => omega
                        case rel => exact ⟨p + 1, by omega, by go_num, hb6.setCell (Nat.le_refl _) _, row_stepZ (F := fun v => .bool (lf v)) hL6 (by rw [HLP.out, e1]; rfl)⟩
                      · have e1 : decide (y ≤ 1) = false := decide_eq_false hy1
                        go_wp2
                        go_roundg (gk - 1)
                        case measure => omega
                        case rel => exact ⟨p + 1, by omega, by go_num, hb6.setCell (Nat.le_refl _) _, row_stepZ (F := fun v => .bool (lf v)) hL6 (by rw [HLP.out, e1]; rfl)⟩
                  · obtain rfl : p = L.n := by omega
                    have hL7 := hL6.congr (g := fun v => .bool (lf v)) (by intro v hv; simp [hv])
                    have hb7 : Below bd w wz := hb5.trans (hb6.mono (by omega))
                    clear hL6 hL5 hA5 hG5 hp hpn hb6 hb5 h5 hBw5
                    go_wp2
                    go_loopg [19] L.m (fun g0 iv wq => ∃ l : Nat, l + g0 = L.m ∧ iv = .int .i64 l ∧ Below bG wz wq ∧ wq.rowIs bG 3 L.n (fun v => .int .i64 (G v - (dec L A lf l v : Nat))) ∧ wq.rowIs bL 4 L.n (fun v => .bool (lf v)))
                    case atStart =>
                      refine ⟨0, by omega, rfl, Below.refl _ _, hG6.congr (by intro v _; simp [dec, cnt]), hL7⟩
                    case round =>
                      clear hL7
                      rename World => wq
                      obtain ⟨l, hl, rfl, hb8, hG8, hL8⟩ := hrel
                      have hA8 := hA6.of_block (hb8.block _ hAG)
                      have h8 := (h.below (hb7.mono (by omega))).below (hb8.mono (by omega))
                      by_cases hlm : l < L.m
                      · obtain ⟨hfa, hga, hfg⟩ := h.fits l hlm
                        have hus := usable_any L B wq _ _ _ _ ca cb cf cc l h8 hlm
                        obtain ⟨u, hu⟩ : ∃ u, u = L.us l := ⟨_, rfl⟩
                        obtain ⟨b1, o1, rfl, _, c1⟩ := h8.A.nat hlm
                        obtain ⟨b2, o2, rfl, _, c2⟩ := h8.B'.nat hlm
                        rw [← hu] at hus
                        have ca1 := hA8.cell hfa
                        have ca2 := hA8.cell hga
                        have cl1 := hL8.cell hfa
                        have cl2 := hL8.cell hga
                        have cg1 := hG8.cell hfa
                        have cg2 := hG8.cell hga
                        have fr1 := hG8.frozen (L.f l)
                        have fr2 := hG8.frozen (L.g l)
                        have hLL : ∀ v, (wq.setCell ⟨bG, L.g l, none⟩ v).cell? ⟨bL, L.g l, none⟩ = some (.bool (lf (L.g l))) := by
                          intro v
                          exact (hL8.setOther (a := ⟨bG, L.g l, none⟩) (by show bL ≠ bG; omega) v).cell hga
                        obtain ⟨xa, hxa⟩ : ∃ x, x = A (L.f l) := ⟨_, rfl⟩
                        obtain ⟨xb, hxb⟩ : ∃ x, x = A (L.g l) := ⟨_, rfl⟩
                        obtain ⟨ya, hya⟩ : ∃ x, x = lf (L.f l) := ⟨_, rfl⟩
                        obtain ⟨yb, hyb⟩ : ∃ x, x = lf (L.g l) := ⟨_, rfl⟩
                        obtain ⟨gf, hgf⟩ : ∃ x, x = G (L.f l) - (dec L A lf l (L.f l) : Nat) := ⟨_, rfl⟩
                        obtain ⟨gg, hgg⟩ : ∃ x, x = G (L.g l) - (dec L A lf l (L.g l) : Nat) := ⟨_, rfl⟩
                        have bf1 : -16800000 ≤ gf ∧ gf ≤ 4096 := by
                          have := dec_le L A lf l (L.f l)
                          have := hGb' (L.f l)
                          omega
                        have bg1 : -16800000 ≤ gg ∧ gg ≤ 4096 := by
                          have := dec_le L A lf l (L.g l)
                          have := hGb' (L.g l)
                          omega
                        rw [← hxa] at ca1
                        rw [← hxb] at ca2
                        rw [← hya] at cl1
                        rw [← hyb] at cl2
                        rw [← hgf] at cg1
                        rw [← hgg] at cg2
                        simp only [← hyb] at hLL
                        have hlm' : (l : Int) < (L.m : Int) := by omega
                        have hfa' : (L.f l : Int) < (L.n : Int) := by omega
                        have hga' : (L.g l : Int) < (L.n : Int) := by omega
                        have hup : ∀ v, dec L A lf (l + 1) v = dec L A lf l v + if (u && xa && xb && !lf v && ((L.f l == v && yb) || (L.g l == v && ya))) then 1 else 0 := by
                          intro v; rw [dec_succ, hu, hxa, hxb, hya, hyb]
                        have HUP := (show Hid _ from hup)
                        have HGF := (show Hid _ from hgf)
                        have HGG := (show Hid _ from hgg)
                        have HYA := (show Hid _ from hya)
                        have HYB := (show Hid _ from hyb)
                        clear hup hxa hxb hgf hgg hu hfg hya hyb
                        go_wp2_with fail
                        refine hus.mono ?_
                        rintro e w' ⟨rfl, rfl⟩
                        clear hus
                        have idle : (∀ v, (u && xa && xb && !lf v && ((L.f l == v && yb) || (L.g l == v && ya))) = false) → wq.rowIs bG 3 L.n (fun v => .int .i64 (G v - (dec L A lf (l + 1) v : Nat))) := by
                          intro hc
                          refine hG8.congr ?_
                          intro v _
                          rw [HUP.out v, hc v]
                          simp
                        cases u with
                        | false =>
                          have hid := idle (by intro v; simp)
                          clear idle
                          go_wp2
                          go_roundg (gk - 1)
                          case measure => omega
                          case rel => exact ⟨l + 1, by omega, by go_num, hb8, hid, hL8⟩
                        | true =>
                          cases xa with
                          | false =>
                            have hid := idle (by intro v; simp)
                            clear idle
                            go_wp2
                            go_roundg (gk - 1)
                            case measure => omega
                            case rel => exact ⟨l + 1, by omega, by go_num, hb8, hid, hL8⟩
                          | true =>
                            cases xb with
                            | false =>
                              have hid := idle (by intro v; simp)
                              clear idle
                              go_wp2
                              go_roundg (gk - 1)
                              case measure => omega
                              case rel => exact ⟨l + 1, by omega, by go_num, hb8, hid, hL8⟩
                            | true =>
                              cases ya with
                              | false =>
                                cases yb with
                                | false =>
                                  have hid := idle (by
                                    intro v
                                    simp)
                                  clear idle
                                  go_wp2
                                  go_roundg (gk - 1)
                                  case measure => omega
                                  case rel => exact ⟨l + 1, by omega, by go_num, hb8, hid, hL8⟩
                                | true =>
                                  clear idle
                                  go_wp2
                                  go_roundg (gk - 1)
                                  case measure => omega
                                  case rel =>
                                    refine ⟨l + 1, by omega, by go_num, hb8.setCell (Nat.le_refl _) _, (hG8.set (L.f l) (.int .i64 (gf - 1))).congr ?_, hL8.setOther (by show bL ≠ bG; omega) _⟩
                                    intro v _
                                    rw [HUP.out v]
                                    have hne := (h.fits l hlm).2.2
                                    by_cases e1 : v = L.f l
                                    · subst e1
                                      rw [if_pos rfl, HGF.out, ← HYA.out]
                                      simp
                                      omega
                                    · have e3 : (L.f l == v) = false := by simpa using fun e => e1 e.symm
                                      simp [e1, e3]
                              | true =>
                                cases yb with
                                | false =>
                                  clear idle
                                  go_wp2
                                  go_roundg (gk - 1)
                                  case measure => omega
                                  case rel =>
                                    refine ⟨l + 1, by omega, by go_num, hb8.setCell (Nat.le_refl _) _, (hG8.set (L.g l) (.int .i64 (gg - 1))).congr ?_, hL8.setOther (by show bL ≠ bG; omega) _⟩
                                    intro v _
                                    rw [HUP.out v]
                                    have hne := (h.fits l hlm).2.2
                                    by_cases e1 : v = L.g l
                                    · subst e1
                                      rw [if_pos rfl, HGG.out, ← HYB.out]
                                      simp
                                      omega
                                    · have e3 : (L.g l == v) = false := by simpa using fun e => e1 e.symm
                                      simp [e1, e3]
                                | true =>
                                  have hid := idle (by
                                    intro v
                                    by_cases e1 : L.f l = v
                                    · subst e1; simp [← HYA.out]
                                    · by_cases e2 : L.g l = v
                                      · subst e2; simp [← HYB.out]
                                      · simp [e1, e2])
                                  clear idle
                                  go_wp2
                                  go_roundg (gk - 1)
                                  case measure => omega
                                  case rel => exact ⟨l + 1, by omega, by go_num, hb8, hid, hL8⟩
                      · obtain rfl : l = L.m := by omega
                        have hb9 : Below bd w wq := hb7.trans (hb8.mono (by omega))
                        clear hb8 hG6 hA6 hlm hl h8
                        go_wp2
                        go_loopg [12, 22] L.n (fun g0 sv iv wp => ∃ p : Nat, p + g0 = L.n ∧ iv = .int .i64 p ∧ sv = .int .i64 ((c : Int) - (cnt p lf : Nat)) ∧ Below bA wq wp ∧ wp.rowIs bA 4 L.n (fun v => if v < p then .bool (A v && !lf v) else .bool (A v)) ∧ wp.rowIs bG 3 L.n (fun v => .int .i64 (G v - (dec L A lf L.m v : Nat))) ∧ wp.rowIs bL 4 L.n (fun v => .bool (lf v)))
                        case atStart =>
                          refine ⟨0, by omega, rfl, by simp [cnt], Below.refl _ _, ?_, hG8, hL8⟩
                          simp only [Nat.not_lt_zero, if_false]
                          exact hA8
                        case round =>
                          clear hA8 hG8 hL8
                          rename World => wp
                          obtain ⟨p, hp, rfl, rfl, hb10, hA10, hG10, hL10⟩ := hrel
                          have hcq := cnt_le p lf
                          by_cases hpn : p < L.n
                          · have cl10 := hL10.cell hpn
                            have ca10 := hA10.cell hpn
                            have fa10 := hA10.frozen p
                            have hcs := cnt_succ p lf
                            obtain ⟨y, hy⟩ : ∃ y, y = lf p := ⟨_, rfl⟩
                            rw [← hy] at cl10 hcs
                            obtain ⟨q, hq⟩ : ∃ q, q = cnt p lf := ⟨_, rfl⟩
                            rw [← hq] at hcs hcq
                            rw [← hq]
                            have HCS := (show Hid _ from hcs)
                            have HY := (show Hid _ from hy)
                            clear hcs hy hq
                            cases y with
                            | false =>
                              go_wp2
                              go_roundg (gk - 1)
                              case measure => omega
                              case rel =>
                                refine ⟨p + 1, by omega, by go_num, by rw [HCS.out]; simp, hb10, hA10.congr ?_, hG10, hL10⟩
                                intro v _
                                by_cases e1 : v = p
                                · subst e1
                                  simp [← HY.out]
                                · by_cases e2 : v < p
                                  · simp [e2, Nat.lt_succ_of_lt e2]
                                  · have e3 : ¬ v < p + 1 := by omega
                                    simp [e2, e3]
                            | true =>
                              go_wp2
                              go_roundg (gk - 1)
                              case measure => omega
                              case rel =>
                                refine ⟨p + 1, by omega, by go_num, by rw [HCS.out]; simp; omega, hb10.setCell (Nat.le_refl _) _, row_stepZ (F := fun v => .bool (A v && !lf v)) hA10 (by rw [← HY.out]; simp), hG10.setOther (by show bG ≠ bA; omega) _, hL10.setOther (by show bL ≠ bA; omega) _⟩
                          · obtain rfl : p = L.n := by omega
                            go_wp2
                            go_roundg (L.n - (r + 1))
                            case measure => omega
                            case rel =>
                              have hlf2 : ∀ v, lf v = lfOf L A v := by
                                intro v
                                rw [HLF.out v, lfOf]
                                cases ha : A v with
                                | false => rfl
                                | true =>
                                  have := hGd v ha
                                  by_cases e : 2 ≤ degA L A v
                                  · have e2 : ¬ G v ≤ 1 := by omega
                                    simp [e, e2]
                                  · have e2 : G v ≤ 1 := by omega
                                    simp [e, e2]
                              have hnx : left L δ (r + 1) = fun v => A v && !lf v := by
                                funext v
                                rw [left_next, ← HAE.out, hlf2 v]
                              refine ⟨r + 1, fun v => G v - (dec L A lf L.m v : Nat), lf, by omega, by go_num, ?_, ?_, ?_, ?_, hb9.trans (hb10.mono (by omega)), hA10.congr ?_, hG10, hL10⟩
                              · have hcd := cnt_diff (n := L.n) (A := A) (lf := lf) (by intro v _ hv; rw [HLF.out v] at hv; simp at hv; exact hv.1)
                                rw [hnx, HC.out, hcd]
                                simp
                              · intro v
                                have h1 := dec_le L A lf L.m v
                                have h2 := hGb v
                                exact deg_bound h1 hm h2
                              · intro v hv
                                rw [hnx] at hv
                                simp at hv
                                show G v - (dec L A lf L.m v : Nat) = _
                                rw [hnx, hGd v hv.1, deg_next L A lf h.fits v hv.1 hv.2]
                                omega
                              · intro r' hr'
                                by_cases e : r' = r
                                · subst e
                                  rw [← HAE.out, ← HC.out]
                                  exact hc2
                                · exact hpast r' (by omega)
                              · intro v hv
                                rw [if_pos hv, hnx]
              · go_wp2
                go_ret
                exact ⟨bA, r, rfl, hpast, hbend, hend⟩
            · go_wp2
              go_ret
              exact ⟨bA, rfl, r, hpast, hbend, hend⟩

end Go.Proofs.Qxb6608983a
