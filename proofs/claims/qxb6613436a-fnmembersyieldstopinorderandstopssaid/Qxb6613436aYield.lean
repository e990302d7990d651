import Derived.Test.Qxb6613436aMb
namespace Go.Proofs.Qxb6613436a
open Go.RowKit
set_option linter.unusedVariables false
set_option linter.unusedSimpArgs false

/-- All blocks below B but X and Y are as they were. -/
structure Kp (B X Y : Nat) (w w' : World) : Prop where
  os : w'.os = w.os
  tape : w'.tape = w.tape
  output : w'.output = w.output
  size : w.heap.size ≤ w'.heap.size
  block : ∀ k, k < B → k ≠ X → k ≠ Y → w'.heap[k]? = w.heap[k]?

theorem Kp.refl (B X Y : Nat) (w : World) : Kp B X Y w w := ⟨rfl, rfl, rfl, Nat.le_refl _, fun _ _ _ _ => rfl⟩
theorem Kp.trans {B X Y : Nat} {a b c : World} (h : Kp B X Y a b) (k : Kp B X Y b c) : Kp B X Y a c :=
  ⟨k.os.trans h.os, k.tape.trans h.tape, k.output.trans h.output, Nat.le_trans h.size k.size, fun i hi hx hy => (k.block i hi hx hy).trans (h.block i hi hx hy)⟩
theorem Kp.alloc {B X Y : Nat} {a b : World} (h : Kp B X Y a b) (hB : B ≤ b.heap.size) (o : Obj) : Kp B X Y a (b.alloc o) :=
  h.trans ⟨rfl, rfl, rfl, by simp, fun k hk _ _ => Below.heap_alloc _ _ _ (by omega)⟩
theorem Kp.setCell {B X Y : Nat} {a b : World} (h : Kp B X Y a b) {p : Addr} (hp : p.block = X ∨ p.block = Y ∨ B ≤ p.block) (u : Value) : Kp B X Y a (b.setCell p u) := by
  refine h.trans ⟨rfl, rfl, rfl, by simp [World.setCell], fun k hk hx hy => ?_⟩
  refine Go.Deep.blk_setCell_other _ _ _ _ ?_
  rintro rfl
  rcases hp with e | e | e
  · exact hx e
  · exact hy e
  · omega
theorem Kp.rowIs {B X Y : Nat} {a b : World} (h : Kp B X Y a b) {g : Nat} {t : TypeId} {n : Nat} {f : Nat → Value} (hr : a.rowIs g t n f) (hg : g < B) (hx : g ≠ X) (hy : g ≠ Y) : b.rowIs g t n f := hr.of_block (h.block g hg hx hy)
theorem Kp.cell {B X Y : Nat} {a b : World} (h : Kp B X Y a b) {p : Addr} (hg : p.block < B) (hx : p.block ≠ X) (hy : p.block ≠ Y) : b.cell? p = a.cell? p := World.cell?_of_block (w := a) (h.block _ hg hx hy)

theorem size_setCell (w : World) (p : Addr) (u : Value) : (w.setCell p u).heap.size = w.heap.size := by simp [World.setCell]
theorem ownsRow_setCell {w : World} {base : Nat} {e : TypeId} {size : Nat} {v : Value} {n : Nat} {xs : List Value} (h : w.ownsRow base e size v n xs) {p : Addr} (hp : p.block < base) (u : Value) : (w.setCell p u).ownsRow base e size v n xs :=
  ownsRow_setCell_below h hp u

/-- One element appended to a slice that is owned. -/
theorem app_one {w : World} {base : Nat} {v : Value} {j : Nat} {xs : List Value} (own : w.ownsRow base 27 1 v j xs) (x : Value) (hx : x.oneCell' = true) (hj : j ≤ 1048576) (hb : base ≤ w.heap.size) :
    ∃ g cap w2, (Builtin.append_ #[26, 26] 26 #[v, .slice (some ⟨w.heap.size, 0, none⟩) 1 1]).run Try.prog (w.alloc (.cells #[x] 27)) = .ok (.slice (some ⟨g, 0, none⟩) (j + 1) cap) w2 ∧
      w2.ownsRow base 27 1 (.slice (some ⟨g, 0, none⟩) (j + 1) cap) (j + 1) (xs ++ [x]) ∧ w.grownBy w2 v.ownBlock ∧ (v.ownBlock = some g ∨ w.heap.size < g) ∧ g < w2.heap.size ∧ base ≤ g := by
  obtain ⟨i, hi, hz, hs, hby⟩ := info_parts Try.info27
  have hlt1 : (w.alloc (.cells #[x] 27)).heap.size = w.heap.size + 1 := by simp
  obtain ⟨g, cap, w2, hrun, hown, hgrow, hat, hglt⟩ := run_append_lies (P := Try.prog) (w.alloc (.cells #[x] 27)) 26 26 base 27 i _ 1 24 Try.underlying26 hi hz hs hby rfl (by decide)
    v j xs (own.alloc (.cells #[x] 27)) ⟨w.heap.size, 0, none⟩ 1 1 [x] rfl (by
      intro k u hu
      rw [Addr.add_lit, Nat.zero_add]
      have hc : (w.alloc (.cells #[x] 27)).cell? ⟨w.heap.size, k, none⟩ = #[x][k]? := by
        unfold World.cell?
        rw [heap_new]
        simp
      rw [hc]
      simpa using hu) (by intro u hu; simp at hu; subst hu; exact hx) (by omega) (by unfold maxLen; omega) (by omega) (by rw [hlt1]; omega) _ rfl
  refine ⟨g, cap, w2, hrun, hown, ?_, ?_, hglt, ?_⟩
  · refine ⟨hgrow.os, hgrow.tape, hgrow.output, by have := hgrow.size; rw [hlt1] at this; omega, fun k hk hne => ?_⟩
    rw [hgrow.block k (by rw [hlt1]; omega) hne]
    exact Below.heap_alloc _ _ _ hk
  · rcases hat with h | h
    · exact .inl h
    · right; rw [hlt1] at h; omega
  · rcases hat with h | h
    · exact (own.lt g h).1
    · rw [hlt1] at h; omega

/-- What has been gathered: the first j members. -/
structure Got (base : Nat) (w : World) (pK pV pS : Nat) (K V : Nat → Value) (j : Nat) (st : Int) (vK vV : Value) : Prop where
  ltK : pK < base
  ltV : pV < base
  ltS : pS < base
  neKV : pK ≠ pV
  neKS : pK ≠ pS
  neVS : pV ≠ pS
  ltb : base ≤ w.heap.size
  rowK : w.rowIs pK 26 1 (fun _ => vK)
  rowV : w.rowIs pV 26 1 (fun _ => vV)
  rowS : w.rowIs pS 3 1 (fun _ => .int .i64 st)
  ownK : w.ownsRow base 27 1 vK j ((List.range j).map K)
  ownV : w.ownsRow base 27 1 vV j ((List.range j).map V)
  apart : vK.ownBlock = none ∨ vK.ownBlock ≠ vV.ownBlock

set_option maxHeartbeats 1000000 in
theorem yield_any (base pK pV pS : Nat) (K V : Nat → Value) (j : Nat) (st : Int) (vK vV : Value) (w : World) (ak av : Option Addr) (lk ck lv cv : Nat) (h : Got base w pK pV pS K V j st vK vV) (hK : K j = .slice ak lk ck) (hV : V j = .slice av lv cv)
    (hj : j ≤ 1048575) :
    Calls Try.prog 15 #[.slice ak lk ck, .slice av lv cv, .pointer (some ⟨pK, 0, none⟩), .pointer (some ⟨pV, 0, none⟩), .pointer (some ⟨pS, 0, none⟩)] w fun e w' => e = .returned (.bool (decide (((j + 1 : Nat) : Int) < st))) ∧
      (∃ vK' vV', Got base w' pK pV pS K V (j + 1) st vK' vV') ∧ Kp base pK pV w w' := by
  have c1 := h.rowK.cell (i := 0) (by omega)
  obtain ⟨g1, cap1, w2, hrun1, hown1, hgrow1, hat1, hlt1, hbg1⟩ := app_one h.ownK (.slice ak lk ck) rfl (by omega) h.ltb
  have hKne : ∀ k, vK.ownBlock = some k → base ≤ k := fun k hk => (h.ownK.lt k hk).1
  have hVne : ∀ k, vV.ownBlock = some k → base ≤ k := fun k hk => (h.ownV.lt k hk).1
  have blk1 : ∀ k, k < base → w2.heap[k]? = w.heap[k]? := fun k hk => hgrow1.block k (Nat.lt_of_lt_of_le hk h.ltb) (fun e => by have := hKne k e.symm; omega)
  have rK2 : w2.rowIs pK 26 1 (fun _ => vK) := h.rowK.of_block (blk1 _ h.ltK)
  have rV2 : w2.rowIs pV 26 1 (fun _ => vV) := h.rowV.of_block (blk1 _ h.ltV)
  have rS2 : w2.rowIs pS 3 1 (fun _ => .int .i64 st) := h.rowS.of_block (blk1 _ h.ltS)
  have fK2 := rK2.frozen 0
  have cK2 := rK2.cell (i := 0) (by omega)
  have oV2 := h.ownV.kept hgrow1 (by
    rcases h.apart with e | e
    · rw [e]
      cases hq : vV.ownBlock with
      | none => exact .inl rfl
      | some x => right; simp
    · cases hq : vV.ownBlock with
      | none => exact .inl rfl
      | some x => right; rw [hq] at e; exact fun e2 => e e2.symm)
  obtain ⟨w3, hw3⟩ : ∃ w3, w3 = w2.setCell ⟨pK, 0, none⟩ (.slice (some ⟨g1, 0, none⟩) (j + 1) cap1) := ⟨_, rfl⟩
  have hz3 : w3.heap.size = w2.heap.size := by rw [hw3, size_setCell]
  have hb3 : base ≤ w3.heap.size := by rw [hz3]; exact Nat.le_trans h.ltb hgrow1.size
  have rK3 : w3.rowIs pK 26 1 (fun _ => .slice (some ⟨g1, 0, none⟩) (j + 1) cap1) := by
    rw [hw3]
    exact (rK2.set 0 _).congr (by intro i hi; have : i = 0 := by omega
                                  simp [this])
  have rV3 : w3.rowIs pV 26 1 (fun _ => vV) := by rw [hw3]; exact rV2.setOther (by show pV ≠ pK; exact fun e => h.neKV e.symm) _
  have rS3 : w3.rowIs pS 3 1 (fun _ => .int .i64 st) := by rw [hw3]; exact rS2.setOther (by show pS ≠ pK; exact fun e => h.neKS e.symm) _
  have oK3 : w3.ownsRow base 27 1 (.slice (some ⟨g1, 0, none⟩) (j + 1) cap1) (j + 1) ((List.range (j + 1)).map K) := by
    rw [hw3, List.range_succ, List.map_append, List.map_singleton, hK]
    exact ownsRow_setCell hown1 h.ltK _
  have oV3 : w3.ownsRow base 27 1 vV j ((List.range j).map V) := by rw [hw3]; exact ownsRow_setCell oV2 h.ltK _
  have k3 : Kp base pK pV w w3 := by
    rw [hw3]
    have k2 : Kp base pK pV w w2 := ⟨hgrow1.os, hgrow1.tape, hgrow1.output, hgrow1.size, fun k hk _ _ => blk1 k hk⟩
    exact k2.setCell (p := ⟨pK, 0, none⟩) (.inl rfl) _
  have cV3 := rV3.cell (i := 0) (by omega)
  obtain ⟨g2, cap2, w4, hrun2, hown2, hgrow2, hat2, hlt2, hbg2⟩ := app_one oV3 (.slice av lv cv) rfl (by omega) hb3
  have blk2 : ∀ k, k < base → w4.heap[k]? = w3.heap[k]? := fun k hk => hgrow2.block k (Nat.lt_of_lt_of_le hk hb3) (fun e => by have := hVne k e.symm; omega)
  have rK4 : w4.rowIs pK 26 1 (fun _ => .slice (some ⟨g1, 0, none⟩) (j + 1) cap1) := rK3.of_block (blk2 _ h.ltK)
  have rV4 : w4.rowIs pV 26 1 (fun _ => vV) := rV3.of_block (blk2 _ h.ltV)
  have rS4 : w4.rowIs pS 3 1 (fun _ => .int .i64 st) := rS3.of_block (blk2 _ h.ltS)
  have fV4 := rV4.frozen 0
  have cV4 := rV4.cell (i := 0) (by omega)
  have hg1 : vV.ownBlock = none ∨ vV.ownBlock ≠ some g1 := by
    cases hq : vV.ownBlock with
    | none => exact .inl rfl
    | some x =>
      right
      have hx := (h.ownV.lt x hq).2
      rcases hat1 with e | e
      · rcases h.apart with e2 | e2
        · rw [e2] at e; cases e
        · rw [e, hq] at e2; exact fun e3 => e2 e3.symm
      · intro e3
        have : x = g1 := by simpa using e3
        omega
  have oK4 := oK3.kept hgrow2 (by
    rcases hg1 with e | e
    · rw [e]; right; show some g1 ≠ none; simp
    · right; exact fun e2 => e e2.symm)
  obtain ⟨w5, hw5⟩ : ∃ w5, w5 = w4.setCell ⟨pV, 0, none⟩ (.slice (some ⟨g2, 0, none⟩) (j + 1) cap2) := ⟨_, rfl⟩
  have rK5 : w5.rowIs pK 26 1 (fun _ => .slice (some ⟨g1, 0, none⟩) (j + 1) cap1) := by rw [hw5]; exact rK4.setOther (by show pK ≠ pV; exact h.neKV) _
  have rS5 : w5.rowIs pS 3 1 (fun _ => .int .i64 st) := by rw [hw5]; exact rS4.setOther (by show pS ≠ pV; exact fun e => h.neVS e.symm) _
  have rV5 : w5.rowIs pV 26 1 (fun _ => .slice (some ⟨g2, 0, none⟩) (j + 1) cap2) := by
    rw [hw5]
    exact (rV4.set 0 _).congr (by intro i hi; have : i = 0 := by omega
                                  simp [this])
  have oV5 : w5.ownsRow base 27 1 (.slice (some ⟨g2, 0, none⟩) (j + 1) cap2) (j + 1) ((List.range (j + 1)).map V) := by
    rw [hw5, List.range_succ, List.map_append, List.map_singleton, hV]
    exact ownsRow_setCell hown2 h.ltV _
  have oK5 : w5.ownsRow base 27 1 (.slice (some ⟨g1, 0, none⟩) (j + 1) cap1) (j + 1) ((List.range (j + 1)).map K) := by rw [hw5]; exact ownsRow_setCell oK4 h.ltV _
  have k5 : Kp base pK pV w w5 := by
    rw [hw5]
    have k4 : Kp base pK pV w3 w4 := ⟨hgrow2.os, hgrow2.tape, hgrow2.output, hgrow2.size, fun k hk _ _ => blk2 k hk⟩
    exact k3.trans (k4.setCell (p := ⟨pV, 0, none⟩) (.inr (.inl rfl)) _)
  have hz5 : base ≤ w5.heap.size := Nat.le_trans h.ltb k5.size
  have hap : some g1 ≠ some g2 := by
    intro e
    have e' : g1 = g2 := by simpa using e
    rcases hat2 with e2 | e2
    · rcases hg1 with e3 | e3
      · rw [e3] at e2; cases e2
      · exact e3 (by rw [e2, e'])
    · rw [hz3] at e2; omega
  have cK5 := rK5.cell (i := 0) (by omega)
  have cS5 := rS5.cell (i := 0) (by omega)
  have hgot : Got base w5 pK pV pS K V (j + 1) st (.slice (some ⟨g1, 0, none⟩) (j + 1) cap1) (.slice (some ⟨g2, 0, none⟩) (j + 1) cap2) :=
    ⟨h.ltK, h.ltV, h.ltS, h.neKV, h.neKS, h.neVS, hz5, rK5, rV5, rS5, oK5, oV5, .inr hap⟩
  have HW3 := (show Hid _ from hw3)
  have HW5 := (show Hid _ from hw5)
  have HG := (show Hid _ from hgot)
  have HK := (show Hid _ from k5)
  clear hgot k5 hw3 hw5 hK hV hap hz5 hg1 hat1 hat2 oV5 oK5 oK4 oV3 oK3 oV2 hown1 hown2 blk1 blk2 hgrow1 hgrow2 hz3 k3 rK2 rV2 rS2 rK3 rV3 rS3 rK4 rV4 rS4 rK5 rS5 rV5 hKne hVne h hlt1 hlt2 hbg1 hbg2 hb3
  go_enter Try.func15, Try.ntmps15
  go_upto_region 2 with (at_builtin; refine wpList_append_run rfl (.tmp 8) (.tmp 10) 26 rfl _ _ _ _ rfl rfl hrun1 ?_)
  rw [← HW3.out]
  go_upto_region 3 with (at_builtin; refine wpList_append_run rfl (.tmp 12) (.tmp 14) 26 rfl _ _ _ _ rfl rfl hrun2 ?_)
  rw [← HW5.out]
  go_wp2
  go_ret
  refine ⟨?_, ⟨_, _, HG.out⟩, HK.out⟩
  simp

end Go.Proofs.Qxb6613436a
