import Derived.Test.Qxb6608983aLaw1
namespace Go.Proofs.Qxb6608983a
open Go.RowKit
set_option linter.unusedVariables false
set_option linter.unusedSimpArgs false

/-- The links as numbers from nought on, once they fit. -/
def lkOf (n m : Nat) (f g : Nat → Int) (F C : Nat → Bool) : Lk where
  n := n
  m := m
  f := fun i => (f i).toNat
  g := fun i => (g i).toNat
  F := F
  C := C

theorem lkAt_of {n m : Nat} {f g : Nat → Int} {F C : Nat → Bool} {B : Nat} {w : World} {aa ab af ac : Option Addr} (hn : n ≤ 4096) (hm : m ≤ 4096) (hfit : Fits n m m m f g)
    (hA : At B w aa m (fun i => .int .i64 (f i))) (hB : At B w ab m (fun i => .int .i64 (g i))) (hF : At B w af n (fun i => .bool (F i))) (hC : At B w ac m (fun i => .bool (C i))) : LkAt (lkOf n m f g F C) B w aa ab af ac := by
  obtain ⟨_, _, h⟩ := hfit
  refine ⟨hn, hm, ?_, ?_, ?_, hF, hC⟩
  · intro i hi
    have := h i hi
    show (f i).toNat < n ∧ (g i).toNat < n ∧ (f i).toNat ≠ (g i).toNat
    omega
  · refine hA.congr ?_
    intro i hi
    have := h i hi
    show Value.int .i64 (f i) = .int .i64 ((f i).toNat : Nat)
    rw [Int.toNat_of_nonneg this.1]
  · refine hB.congr ?_
    intro i hi
    have := h i hi
    show Value.int .i64 (g i) = .int .i64 ((g i).toNat : Nat)
    rw [Int.toNat_of_nonneg this.2.2.1]

/-- The four worlds of the making, put together. -/
theorem wk_made {L : Lk} {S : Nat → Value} {w0 w1 w2 w3 w4 : World} {aF aC : Option Addr} {cF cC : Nat} (hn : L.n ≤ 4096) (hm : L.m ≤ 4096) (hf : ∀ i, i < L.m → L.f i < L.n ∧ L.g i < L.n ∧ L.f i ≠ L.g i)
    (hP : PortsSt w1 w0.heap.size L.n S (portsOf L.f L.g L.m)) (hb1 : Below w0.heap.size w0 w1) (hb2 : Below w1.heap.size w1 w2) (hb3 : Below w2.heap.size w2 w3) (hb4 : Below w3.heap.size w3 w4)
    (hF : At w2.heap.size w2 aF L.n (fun v => .bool (L.F v))) (hC : At w3.heap.size w3 aC L.m (fun v => .bool (L.C v)))
    (hr : w4.rowIs w3.heap.size 58 6 (vec6 (.slice (some ⟨w0.heap.size, 0, none⟩) L.n L.n) (.slice aF L.n cF) (.slice aC L.m cC) (.slice (some ⟨w3.heap.size + 1, 0, none⟩) L.n L.n) (.slice (some ⟨w3.heap.size + 2, 0, none⟩) L.n L.n) (.slice (some ⟨w3.heap.size + 3, 0, none⟩) 0 L.n)))
    (hd1 : w4.rowIs (w3.heap.size + 1) 3 L.n (fun _ => .int .i64 0)) (hd2 : w4.rowIs (w3.heap.size + 2) 3 L.n (fun _ => .int .i64 0)) (hd3 : w4.rowIs (w3.heap.size + 3) 3 L.n (fun _ => .int .i64 0)) :
    WkStat (wkOf L S w0.heap.size w3.heap.size aF aC cF cC) w4 ∧ WkDyn (wkOf L S w0.heap.size w3.heap.size aF aC cF cC) w4 (fun _ => 0) (fun _ => 0) 0 (fun _ => 0) := by
  have s1 := hb1.size; have s2 := hb2.size; have s3 := hb3.size
  have hPlt := hP.row.lt
  have hP3 : PortsSt w3 w0.heap.size L.n S (portsOf L.f L.g L.m) := by
    have hb : Below w1.heap.size w1 w3 := hb2.trans (hb3.mono s2)
    have hgr : w1.grownBy w3 none := ⟨hb.os, hb.tape, hb.output, hb.size, fun k hk _ => hb.block k hk⟩
    refine ⟨hP.row.of_block (hb.block _ hPlt), fun v hv => (hP.own v hv).kept hgr (by cases (S v).ownBlock <;> simp), hP.apart⟩
  have hF3 : At w3.heap.size w3 aF L.n (fun v => .bool (L.F v)) := (hF.below hb3).mono s3
  have hst3 := stat_of (cF := cF) (cC := cC) hn hm hf hP3 (Nat.le_refl _) hF3 hC
  refine ⟨hst3.below hb4, ⟨_, hr, rfl, rfl, rfl, rfl, rfl, rfl⟩, hd1, hd2, ⟨_, hd3, fun i hi => by omega⟩⟩

/-- The survey beside it. -/
theorem sv_made {L : Lk} {S : Nat → Value} {bP p : Nat} {aF aC : Option Addr} {cF cC : Nat} {w4 w5 w6 : World} {r6 : Nat → Value} (hst : WkStat (wkOf L S bP p aF aC cF cC) w4) (hdy : WkDyn (wkOf L S bP p aF aC cF cC) w4 (fun _ => 0) (fun _ => 0) 0 (fun _ => 0))
    (hb5 : Below w4.heap.size w4 w5) (hr5 : w5.rowIs w4.heap.size 70 (L.m * 2) (fun i => .int .i64 (if i % 2 = 0 then L.f (i / 2) else L.g (i / 2) : Nat))) (hb6 : Below w5.heap.size w5 w6)
    (hr6 : w6.rowIs w5.heap.size 68 17 r6) (e60 : r6 0 = .pointer (some ⟨p, 0, none⟩)) (e61 : r6 1 = .slice (some ⟨w4.heap.size, 0, none⟩) L.m L.m) :
    WkStat (wkOf L S bP p aF aC cF cC) w6 ∧ WkDyn (wkOf L S bP p aF aC cF cC) w6 (fun _ => 0) (fun _ => 0) 0 (fun _ => 0) ∧ SvAt (wkOf L S bP p aF aC cF cC) w5.heap.size w4.heap.size L.f L.g w6 := by
  have hlts := hdy.lts
  have hb : Below w4.heap.size w4 w6 := hb5.trans (hb6.mono hb5.size)
  have hs : Same (wkOf L S bP p aF aC cF cC).X w4 w6 := Same.of_below hb (Nat.le_refl _) _
  have hs0 : Same [] w4 w6 := Same.of_below hb (Nat.le_refl _) _
  have hz5 := hr5.lt
  refine ⟨hst.same hs (Nat.le_of_lt (hlts p (by simp [Wk.X, wkOf]))), hdy.same hs0 (by simp) (by simp) (by simp) (by simp), ⟨r6, hr6, e60, e61⟩, hr5.of_block (hb6.block _ hz5), fun hx => ?_, fun hx => ?_⟩
  · have := hlts _ hx; omega
  · have := hlts _ hx; omega

theorem wk_same {L : Lk} {S : Nat → Value} {bP p : Nat} {aF aC : Option Addr} {cF cC : Nat} : (wkOf L S bP p aF aC cF cC).X = [p, p + 1, p + 2, p + 3] := rfl

end Go.Proofs.Qxb6608983a
