import Derived.Test.Qxb6613436aMem
import Derived.Deep.RegionLaw
namespace Go.Proofs.Qxb6613436a
open Go.RowKit
set_option linter.unusedVariables false
set_option linter.unusedSimpArgs false

/-- One member appended to a slice that is owned. -/
theorem app_pair {w : World} {base : Nat} {v : Value} {j : Nat} {xs : List Value} (own : w.ownsRow base 45 2 v j xs) (x y : Value) (hx : x.oneCell' = true) (hy : y.oneCell' = true) (hj : j ≤ 1048576) (hb : base ≤ w.heap.size) :
    ∃ g cap w2, (Builtin.append_ #[36, 36] 36 #[v, .slice (some ⟨w.heap.size, 0, none⟩) 1 1]).run Try.prog (w.alloc (.cells #[x, y] 45)) = .ok (.slice (some ⟨g, 0, none⟩) (j + 1) cap) w2 ∧
      w2.ownsRow base 45 2 (.slice (some ⟨g, 0, none⟩) (j + 1) cap) (j + 1) (xs ++ [x, y]) ∧ w.grownBy w2 v.ownBlock := by
  obtain ⟨i, hi, hz, hs, hby⟩ := info_parts Try.info45
  have hlt1 : (w.alloc (.cells #[x, y] 45)).heap.size = w.heap.size + 1 := by simp
  obtain ⟨g, cap, w2, hrun, hown, hgrow, hat, hglt⟩ := run_append_lies (P := Try.prog) (w.alloc (.cells #[x, y] 45)) 36 36 base 45 i _ 2 48 Try.underlying36 hi hz hs hby rfl (by decide)
    v j xs (own.alloc (.cells #[x, y] 45)) ⟨w.heap.size, 0, none⟩ 1 1 [x, y] rfl (by
      intro k u hu
      rw [Addr.add_lit, Nat.zero_add]
      have hc : (w.alloc (.cells #[x, y] 45)).cell? ⟨w.heap.size, k, none⟩ = #[x, y][k]? := by
        unfold World.cell?
        rw [heap_new]
        simp
      rw [hc]
      simpa using hu) (by intro u hu; simp at hu; rcases hu with rfl | rfl <;> assumption) (by omega) (by unfold maxLen; omega) (by omega) (by rw [hlt1]; omega) _ rfl
  refine ⟨g, cap, w2, hrun, hown, ?_⟩
  refine ⟨hgrow.os, hgrow.tape, hgrow.output, by have := hgrow.size; rw [hlt1] at this; omega, fun k hk hne => ?_⟩
  rw [hgrow.block k (by rw [hlt1]; omega) hne]
  exact Below.heap_alloc _ _ _ hk

/-- The cells of the first j members. -/
def flatM (K V : Nat → Value) : Nat → List Value
  | 0 => []
  | j + 1 => flatM K V j ++ [K j, V j]
theorem flatM_length (K V : Nat → Value) (j : Nat) : (flatM K V j).length = j * 2 := by
  induction j with
  | zero => rfl
  | succ j ih => simp only [flatM, List.length_append, ih, List.length_cons, List.length_nil]; omega
theorem flatM_get (K V : Nat → Value) (j : Nat) : ∀ i, i < j → (flatM K V j)[i * 2]? = some (K i) ∧ (flatM K V j)[i * 2 + 1]? = some (V i) := by
  induction j with
  | zero => intro i hi; omega
  | succ j ih =>
    intro i hi
    simp only [flatM]
    by_cases e : i = j
    · subst e
      have hl := flatM_length K V i
      constructor
      · rw [List.getElem?_append_right (by omega), hl]; simp
      · rw [List.getElem?_append_right (by omega), hl, show i * 2 + 1 - i * 2 = 1 by omega]; rfl
    · have hl := flatM_length K V j
      obtain ⟨h1, h2⟩ := ih i (by omega)
      exact ⟨by rw [List.getElem?_append_left (by omega)]; exact h1, by rw [List.getElem?_append_left (by omega)]; exact h2⟩

/-- A slice of one-cell elements that is owned, read by index. -/
theorem own_at {w : World} {base : Nat} {v : Value} {j : Nat} {F : Nat → Value} (h : w.ownsRow base 27 1 v j ((List.range j).map F)) : ∃ a c, v = .slice a j c ∧ At w.heap.size w a j F := by
  rcases h.2 with ⟨e, h0⟩ | ⟨g, cap, cur, e, hb', hg, _⟩
  · exact ⟨none, 0, by rw [e, h0], fun i hi => by omega⟩
  · subst e
    refine ⟨some ⟨g, 0, none⟩, cap, rfl, fun i hi => ⟨g, 0, rfl, (Array.getElem?_eq_some_iff.1 hg).1, ?_⟩⟩
    rw [Nat.zero_add, h.cellAt i (by omega)]
    simp [hi]

theorem own_at_at {w : World} {base : Nat} {a : Option Addr} {c : Nat} {j : Nat} {F : Nat → Value} (h : w.ownsRow base 27 1 (.slice a j c) j ((List.range j).map F)) : At w.heap.size w a j F := by
  obtain ⟨a', c', e, h'⟩ := own_at h
  injection e with e1 e2 e3
  subst e1
  exact h'

/-- The view under way. -/
structure ViewSt (w : World) (p : Nat) (K V : Nat → Value) (j : Nat) (vT : Value) (r : Nat → Value) : Prop where
  row : w.rowIs p 43 8 r
  at3 : r 3 = vT
  own : w.ownsRow (p + 1) 45 2 vT j (flatM K V j)
  lt : p < w.heap.size

set_option maxHeartbeats 1000000 in
set_option maxRecDepth 4000 in
theorem zmembers_any (K V : Nat → Value) (n ck cv : Nat) (st : Int) (w : World) (ak av : Option Addr) (hn : n ≤ 1048576) (hA : At w.heap.size w ak n K) (hV : At w.heap.size w av n V) (hs : ∀ i, i < n → IsSl (K i) ∧ IsSl (V i)) :
    Calls Try.prog 9 #[.slice ak n ck, .slice av n cv, .int .i64 st] w fun e w' => ∃ c aK cK aV cV, e = .returned (.tuple #[.slice aK c cK, .slice aV c cV]) ∧ Seen n st c ∧ At w'.heap.size w' aK c K ∧ At w'.heap.size w' aV c V ∧ Below w.heap.size w w' := by
  obtain ⟨w4, hw4⟩ : ∃ w4, w4 = ((((w.alloc (Obj.cells #[Value.int IntKind.i64 st] 3)).alloc (Obj.cells #[Value.slice none 0 0] 26)).alloc (Obj.cells #[Value.slice none 0 0] 26)).alloc
      (Obj.cells #[Value.pointer none, Value.bool true, Value.bool true, Value.slice none 0 0, Value.map none, Value.bool false, Value.map none, Value.bool false] 43)) := ⟨_, rfl⟩
  obtain ⟨pS, hpS⟩ : ∃ x, x = w.heap.size := ⟨_, rfl⟩
  obtain ⟨pK, hpK⟩ : ∃ x, x = w.heap.size + 1 := ⟨_, rfl⟩
  obtain ⟨pV, hpV⟩ : ∃ x, x = w.heap.size + 1 + 1 := ⟨_, rfl⟩
  obtain ⟨p, hp⟩ : ∃ x, x = w.heap.size + 1 + 1 + 1 := ⟨_, rfl⟩
  have hz4 : w4.heap.size = w.heap.size + 4 := by rw [hw4]; simp
  have rS : w4.rowIs pS 3 1 (fun _ => .int .i64 st) := by
    rw [hw4, hpS]
    exact (((World.rowIs_alloc w #[.int .i64 st] 3 (fun _ => .int .i64 st) (by intro i hi; simp at hi; subst hi; rfl)).alloc _).alloc _).alloc _
  have rK : w4.rowIs pK 26 1 (fun _ => .slice none 0 0) := by
    rw [hw4, hpK]
    have := World.rowIs_alloc (w.alloc (Obj.cells #[Value.int IntKind.i64 st] 3)) #[.slice none 0 0] 26 (fun _ => .slice none 0 0) (by intro i hi; simp at hi; subst hi; rfl)
    simp only [World.size_alloc] at this
    exact (this.alloc _).alloc _
  have rV : w4.rowIs pV 26 1 (fun _ => .slice none 0 0) := by
    rw [hw4, hpV]
    have := World.rowIs_alloc ((w.alloc (Obj.cells #[Value.int IntKind.i64 st] 3)).alloc (Obj.cells #[Value.slice none 0 0] 26)) #[.slice none 0 0] 26 (fun _ => .slice none 0 0) (by intro i hi; simp at hi; subst hi; rfl)
    simp only [World.size_alloc] at this
    exact this.alloc _
  have vw : ∃ r, ViewSt w4 p K V 0 (.slice none 0 0) r := by
    refine ⟨fun i => #[Value.pointer none, Value.bool true, Value.bool true, Value.slice none 0 0, Value.map none, Value.bool false, Value.map none, Value.bool false].getD i undef, ?_, rfl, World.ownsRow_nil _ _ _ _, by rw [hz4, hp]; omega⟩
    rw [hw4, hp]
    have := World.rowIs_alloc (((w.alloc (Obj.cells #[Value.int IntKind.i64 st] 3)).alloc (Obj.cells #[Value.slice none 0 0] 26)).alloc (Obj.cells #[Value.slice none 0 0] 26)) #[Value.pointer none, Value.bool true, Value.bool true, Value.slice none 0 0, Value.map none, Value.bool false, Value.map none, Value.bool false] 43 (fun i => #[Value.pointer none, Value.bool true, Value.bool true, Value.slice none 0 0, Value.map none, Value.bool false, Value.map none, Value.bool false].getD i undef) (by intro i hi; rw [Array.getElem?_eq_getElem hi]; simp [Array.getD]; intro h8; simp at hi; omega)
    simp only [World.size_alloc] at this
    exact this
  have hb4 : Below w.heap.size w w4 := by
    rw [hw4]
    exact ((((Below.refl _ _).alloc (by simp) _).alloc (by simp) _).alloc (by simp; omega) _).alloc (by simp; omega) _
  have lS : pS < p ∧ pK < p ∧ pV < p ∧ w.heap.size ≤ p ∧ pS ≠ pK ∧ pS ≠ pV ∧ pK ≠ pV ∧ w.heap.size ≤ pK ∧ w.heap.size ≤ pV := by omega
  go_enter Try.func9, Try.ntmps9
  go_wp2
  rw [← hw4, ← hp, ← hpV, ← hpK, ← hpS]
  have HW := (show Hid _ from hw4)
  have HP := (show Hid _ from hp)
  have HZ := (show Hid _ from hz4)
  have HS := (show Hid _ from hpS)
  have HB := (show Hid _ from hb4)
  obtain ⟨l1, l2, l3, l4, n1, n2, n3, l7, l8⟩ := lS
  clear hw4 hp hz4 hpV hpK hpS hb4
  go_loopg [14] n (fun g0 iv wx => ∃ (j : Nat) (vT : Value) (r : Nat → Value), j + g0 = n ∧ iv = .int .i64 j ∧ ViewSt wx p K V j vT r ∧ Below p w4 wx)
  case atStart =>
    obtain ⟨r, hr⟩ := vw
    exact ⟨0, _, r, by omega, rfl, hr, Below.refl _ _⟩
  case round =>
    clear vw
    obtain ⟨j, vT, r, hj, rfl, hv, hb⟩ := hrel
    have hbw : Below w.heap.size w wr := HB.out.trans (hb.mono l4)
    have cT : wr.cell? ⟨p, 3, none⟩ = some vT := by rw [hv.row.cell (by omega), hv.at3]
    have hplt := hv.lt
    by_cases hjn : j < n
    · obtain ⟨b1, o1, rfl, hb1, c1⟩ := (hA.below hbw) j hjn
      obtain ⟨b2, o2, rfl, hb2, c2⟩ := (hV.below hbw) j hjn
      obtain ⟨⟨a3, l5, c3, eK⟩, ⟨a4, l6, c4, eV⟩⟩ := hs j hjn
      obtain ⟨g, cap, w2, hrun, hown, hgrow⟩ := app_pair (w := wr.drew) hv.own.drew (K j) (V j) (by rw [eK]; rfl) (by rw [eV]; rfl) (by omega) (by show p + 1 ≤ wr.heap.size; omega)
      have hnp : vT.ownBlock ≠ some p := fun e => by have := (hv.own.lt p e).1; omega
      have row2 : w2.rowIs p 43 8 r := hv.row.of_block (hgrow.block p hplt (fun e => hnp e.symm))
      have cT2 : w2.cell? ⟨p, 3, none⟩ = some vT := by rw [row2.cell (by omega), hv.at3]
      have fT2 := row2.frozen 3
      have hb3 : Below p wr w2 := ⟨hgrow.os, hgrow.tape, hgrow.output, hgrow.size, fun k hk => hgrow.block k (show k < wr.heap.size by omega) (fun e => by have := (hv.own.lt k e.symm).1; omega)⟩
      have hb1' : b1 < wr.heap.size := by omega
      have hb2' : b2 < wr.heap.size := by omega
      have hjn' : (j : Int) < (n : Int) := by omega
      rw [eK, eV] at hrun
      rw [eK] at c1
      rw [eV] at c2
      have hnext : ViewSt (w2.setCell ⟨p, 3, none⟩ (.slice (some ⟨g, 0, none⟩) (j + 1) cap)) p K V (j + 1) (.slice (some ⟨g, 0, none⟩) (j + 1) cap) (fun i => if i = 3 then .slice (some ⟨g, 0, none⟩) (j + 1) cap else r i) :=
        ⟨row2.set 3 _, by simp, ownsRow_setCell hown (by simp) _, by rw [size_setCell]; exact row2.lt⟩
      have HN := (show Hid _ from hnext)
      have HBN : Hid (Below p w4 (w2.setCell ⟨p, 3, none⟩ (.slice (some ⟨g, 0, none⟩) (j + 1) cap))) := (hb.trans hb3).setCell (Nat.le_refl _) _
      clear hnext hb3 hown hgrow hnp row2 hv hb hbw hA hV hs eK eV rS rK rV
      go_upto_region 5 with fail
      go_region_law (refine step_append_run rfl (.tmp 21) (.tmp 31) 36 rfl _ _ _ _ (by simp [Act.eval, Act.put]) (by simp [Act.eval, Act.put]) hrun ?_)
      all_goals
        go_wp2
        go_roundg (gk - 1)
        case measure => omega
        case rel => exact ⟨j + 1, _, _, by omega, by go_num, HN.out, HBN.out⟩
    · obtain rfl : j = n := by omega
      have hform : ∃ aT cT', vT = .slice aT j cT' ∧ TopAt wr.heap.size pK pV wr aT j K V := by
        rcases hv.own.2 with ⟨e, h0⟩ | ⟨g, cap, cur, e, hb', hg, _⟩
        · exact ⟨none, 0, by rw [e, h0], fun i hi => by omega⟩
        · have hown := hv.own
          rw [e] at hown
          refine ⟨some ⟨g, 0, none⟩, cap, e, fun i hi => ⟨g, 0, rfl, (Array.getElem?_eq_some_iff.1 hg).1, by omega, by omega, ?_, ?_⟩⟩
          · rw [Nat.zero_add, hown.cellAt (i * 2) (by omega)]
            exact (flatM_get K V j i hi).1
          · rw [Nat.zero_add, hown.cellAt (i * 2 + 1) (by omega)]
            exact (flatM_get K V j i hi).2
      obtain ⟨aT, cT', rfl, hT⟩ := hform
      have hgot : Got wr.heap.size wr pK pV pS K V 0 st (.slice none 0 0) (.slice none 0 0) :=
        ⟨by omega, by omega, by omega, n3, fun e => n1 e.symm, fun e => n2 e.symm, Nat.le_refl _, rK.of_block (hb.block _ l2), rV.of_block (hb.block _ l3), rS.of_block (hb.block _ l1), World.ownsRow_nil _ _ _ _, World.ownsRow_nil _ _ _ _, .inl rfl⟩
      have hmem := members_any wr.heap.size pK pV pS p K V j cT' st _ _ wr aT hn hgot hplt (by omega) (by omega) cT hT hs
      clear hgot hT hv rS rK rV
      go_wp2_with fail
      refine hmem.mono ?_
      rintro e w5 ⟨rfl, ⟨c, vK, vV, hseen, hg5⟩, hk5⟩
      clear hmem cT
      have hb5 : Below w.heap.size w w5 := hbw.trans ⟨hk5.os, hk5.tape, hk5.output, hk5.size, fun k hk => hk5.block k (by have := hbw.size; omega) (by omega) (by omega)⟩
      obtain ⟨aK, cK, rfl, atK⟩ := own_at hg5.ownK
      obtain ⟨aV, cV, rfl, atV⟩ := own_at hg5.ownV
      have cK5 := hg5.rowK.cell (i := 0) (by omega)
      have cV5 := hg5.rowV.cell (i := 0) (by omega)
      have fK5 := hg5.rowK.frozen 0
      have fV5 := hg5.rowV.frozen 0
      have lK5 := hg5.rowK.lt
      have lV5 := hg5.rowV.lt
      go_upto_region 8 with fail
      go_region
      all_goals (try go_wp2)
      all_goals
        refine bodyPost_ret (v := .tuple #[.slice aK c cK, .slice aV c cV]) ?_ rfl ⟨c, aK, cK, aV, cV, rfl, hseen, ?_, ?_, ?_⟩
        · simp [results, Try.results9, go_sem, cK5, cV5, n3]
        · exact own_at_at (ownsRow_setCell (ownsRow_setCell hg5.ownK (p := ⟨pK, 0, none⟩) hg5.ltK _) (p := ⟨pV, 0, none⟩) hg5.ltV _)
        · exact own_at_at (ownsRow_setCell (ownsRow_setCell hg5.ownV (p := ⟨pK, 0, none⟩) hg5.ltK _) (p := ⟨pV, 0, none⟩) hg5.ltV _)
        · have hq := (hb5.setCell (p := ⟨pK, 0, none⟩) l7 (.slice aK c cK)).setCell (p := ⟨pV, 0, none⟩) l8 (.slice aV c cV)
          exact ⟨hq.os, hq.tape, hq.output, hq.size, hq.block⟩

end Go.Proofs.Qxb6613436a
