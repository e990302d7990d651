import Derived.Test.Qxb6613436aYield
namespace Go.Proofs.Qxb6613436a
open Go.RowKit
set_option linter.unusedVariables false
set_option linter.unusedSimpArgs false

/-- The view's members: n at aT, apart from the two blocks X and Y. -/
def TopAt (B X Y : Nat) (w : World) (a : Option Addr) (n : Nat) (K V : Nat → Value) : Prop :=
  ∀ i, i < n → ∃ b off, a = some ⟨b, off, none⟩ ∧ b < B ∧ b ≠ X ∧ b ≠ Y ∧ w.cell? ⟨b, off + i * 2, none⟩ = some (K i) ∧ w.cell? ⟨b, off + i * 2 + 1, none⟩ = some (V i)
theorem TopAt.kp {B X Y : Nat} {w w' : World} {a : Option Addr} {n : Nat} {K V : Nat → Value} (h : TopAt B X Y w a n K V) (hk : Kp B X Y w w') : TopAt B X Y w' a n K V := by
  intro i hi
  obtain ⟨b, off, e, hb, hx, hy, h1, h2⟩ := h i hi
  exact ⟨b, off, e, hb, hx, hy, by rw [hk.cell hb hx hy]; exact h1, by rw [hk.cell hb hx hy]; exact h2⟩

theorem Got.alloc {base : Nat} {w : World} {pK pV pS : Nat} {K V : Nat → Value} {j : Nat} {st : Int} {vK vV : Value} (h : Got base w pK pV pS K V j st vK vV) (o : Obj) : Got base (w.alloc o) pK pV pS K V j st vK vV :=
  ⟨h.ltK, h.ltV, h.ltS, h.neKV, h.neKS, h.neVS, by simp; have := h.ltb; omega, h.rowK.alloc o, h.rowV.alloc o, h.rowS.alloc o, h.ownK.alloc o, h.ownV.alloc o, h.apart⟩

/-- A slice. -/
def IsSl (v : Value) : Prop := ∃ a l c, v = .slice a l c

/-- How many members are seen. -/
def Seen (n : Nat) (st : Int) (c : Nat) : Prop := c ≤ n ∧ (c < n → 1 ≤ c ∧ st ≤ c) ∧ (c ≤ 1 ∨ (c : Int) ≤ st)

set_option maxHeartbeats 1000000 in
theorem members_any (base pK pV pS p : Nat) (K V : Nat → Value) (n cT : Nat) (st : Int) (vK vV : Value) (w : World) (aT : Option Addr) (hn : n ≤ 1048576) (h : Got base w pK pV pS K V 0 st vK vV)
    (hp : p < base) (hpK : p ≠ pK) (hpV : p ≠ pV) (cp : w.cell? ⟨p, 3, none⟩ = some (.slice aT n cT)) (hT : TopAt base pK pV w aT n K V) (hs : ∀ i, i < n → IsSl (K i) ∧ IsSl (V i)) :
    Calls Try.prog 14 #[.pointer (some ⟨p, 0, none⟩), .func (.func 15) #[] #[.pointer (some ⟨pK, 0, none⟩), .pointer (some ⟨pV, 0, none⟩), .pointer (some ⟨pS, 0, none⟩)]] w fun e w' => e = .returned (.tuple #[]) ∧
      (∃ c vK' vV', Seen n st c ∧ Got base w' pK pV pS K V c st vK' vV') ∧ Kp base pK pV w w' := by
  go_enter Try.func14, Try.ntmps14
  go_wp2
  go_loopg [11] n (fun g0 iv wx => ∃ (j : Nat) (vK' vV' : Value), j + g0 = n ∧ iv = .int .i64 j ∧ Got base wx pK pV pS K V j st vK' vV' ∧ Kp base pK pV w wx ∧ (j = 0 ∨ (j : Int) < st))
  case atStart => exact ⟨0, vK, vV, by omega, rfl, h, Kp.refl _ _ _ _, .inl rfl⟩
  case round =>
    obtain ⟨j, vK', vV', hj, rfl, hg, hk, hpre⟩ := hrel
    clear cp
    by_cases hjn : j < n
    · obtain ⟨b, off, rfl, hb, hx, hy, h1, h2⟩ := (hT.kp hk) j hjn
      obtain ⟨⟨ak, lk, ck, eK⟩, ⟨av, lv, cv, eV⟩⟩ := hs j hjn
      rw [eK] at h1
      rw [eV] at h2
      have hjn' : (j : Int) < (n : Int) := by omega
      have hk1 : Kp base pK pV w (wr.alloc (Obj.cells #[Value.slice ak lk ck, Value.slice av lv cv] 45)) := hk.alloc hg.ltb _
      by_cases hst : ((j + 1 : Nat) : Int) < st
      · have hy1 := yield_any base pK pV pS K V j st vK' vV' _ ak av lk ck lv cv (hg.alloc (Obj.cells #[Value.slice ak lk ck, Value.slice av lv cv] 45)) eK eV (by omega)
        rw [decide_eq_true hst] at hy1
        clear hT hk eK eV hg h hs
        go_wp2_with fail
        refine hy1.mono ?_
        rintro e w2 ⟨rfl, ⟨vK2, vV2, hg2⟩, hk2⟩
        go_wp2
        go_roundg (gk - 1)
        case measure => omega
        case rel => exact ⟨j + 1, vK2, vV2, by omega, by go_num, hg2, hk1.trans hk2, .inr hst⟩
      · have hy1 := yield_any base pK pV pS K V j st vK' vV' _ ak av lk ck lv cv (hg.alloc (Obj.cells #[Value.slice ak lk ck, Value.slice av lv cv] 45)) eK eV (by omega)
        rw [decide_eq_false hst] at hy1
        clear hT hk eK eV hg h hs
        go_wp2_with fail
        refine hy1.mono ?_
        rintro e w2 ⟨rfl, ⟨vK2, vV2, hg2⟩, hk2⟩
        go_wp2
        (try simp only [Exit.inBlock, Exit.then]); refine bodyPost_ret (results_none rfl _ _ _) rfl ?_
        exact ⟨rfl, ⟨j + 1, vK2, vV2, ⟨by omega, fun _ => ⟨by omega, by omega⟩, by omega⟩, hg2⟩, hk1.trans hk2⟩
    · go_wp2
      go_end0
      exact ⟨rfl, ⟨j, vK', vV', ⟨by omega, fun _ => by omega, by omega⟩, hg⟩, hk⟩

end Go.Proofs.Qxb6613436a
