import Derived.Test.Qxb6608919aLineup
import Derived.Laws.CopyOwn
import Derived.Deep.Draws
namespace Go.Proofs.Qxb6608919a
open Go.RowKit

theorem IntsAt.below {w w' : World} {a : Option Addr} {l : List Int} (h : IntsAt w a l) (hb : Below w.heap.size w w') : IntsAt w' a l := by
  intro i hi
  obtain ⟨b, off, e, hlt, hc⟩ := h i hi
  exact ⟨b, off, e, Nat.lt_of_lt_of_le hlt hb.size, by rw [hb.cell hlt]; exact hc⟩

theorem IntsAt.of_row {w : World} {g : Nat} {t : TypeId} {l : List Int} (h : Row w g t (l.map (Value.int .i64))) : IntsAt w (some ⟨g, 0, none⟩) l := by
  intro i hi
  refine ⟨g, 0, rfl, h.lt, ?_⟩
  rw [Nat.zero_add, h.cell]
  simp [hi]

theorem IntsAt.take {w : World} {a : Option Addr} {l : List Int} (h : IntsAt w a l) {k : Nat} : IntsAt w a (l.take k) := by
  intro i hi
  obtain ⟨b, off, e, hlt, hc⟩ := h i (by simp at hi; omega)
  exact ⟨b, off, e, hlt, by rw [hc]; simp⟩

theorem IntsAt.drop {w : World} {a : Option Addr} {l : List Int} (h : IntsAt w a l) (k : Nat) {c' : Nat} (hc : l.length ≤ c') : IntsAt w (if c' = k then a else a.map (fun x => x.add k)) (l.drop k) := by
  intro i hi
  simp at hi
  obtain ⟨b, off, e, hlt, hc⟩ := h (k + i) (by omega)
  subst e
  rw [if_neg (by omega)]
  refine ⟨b, off + k, ?_, hlt, ?_⟩
  · simp [Addr.add_lit]
  · rw [Nat.add_assoc, hc]; simp

theorem below_drawn {B : Nat} {w w' : World} (h : Below B w w') (q : Nat) : Below B w (w'.drewN q) := ⟨h.os, h.tape, h.output, h.size, h.block⟩

theorem size3 : (Try.prog.info? 3).map (·.size) = some 1 := by kernel_rfl

/-- 'copy(zzc, s)' into a row of the call's own, as long as s. -/
theorem run_copy_ints {P : Program} (w : World) (dT sT ty elem : TypeId) (hu : P.underlying dT = some (.slice elem)) (hsz : (P.info? elem).map (·.size) = some 1)
    (g n cd cs : Nat) (ao : Option Addr) (l : List Int) (hl : l.length = n)
    (cur : Array Value) (t : TypeId) (hg : w.heap[g]? = some (.cells cur t (0, 0))) (hcur : cur.size = n) (hsrc : IntsAt w ao l) :
    ∃ w', (Builtin.copy_ #[dT, sT] ty #[.slice (some ⟨g, 0, none⟩) n cd, .slice ao n cs]).run P w = .ok (.int .i64 n) w' ∧ Row w' g t (l.map (Value.int .i64)) ∧ Below g w w' ∧ w'.heap.size = w.heap.size := by
  by_cases h0 : l = []
  · subst h0
    simp at hl
    subst hl
    have : cur = #[] := by simpa using hcur
    subst this
    exact ⟨w, run_copy_none (P := P) w dT sT ty elem _ _ _ _ _ _ hu hsz (by simp), hg, Below.refl _ _, rfl⟩
  · have hpos : 0 < l.length := by
      cases l with
      | nil => exact absurd rfl h0
      | cons => simp
    obtain ⟨b, off, hao, _, _⟩ := hsrc 0 hpos
    subst hao
    have hr := run_copy_row (P := P) w dT sT ty elem g 0 n cd ⟨b, off, none⟩ n cs cur t (l.map (Value.int .i64)) hu hsz hg (by simp [hl]) ?_ (by simp [hl, hcur]) (by simp [Value.oneCell'])
    · have e : (cur.toList.take 0 ++ l.map (Value.int .i64) ++ cur.toList.drop (0 + (l.map (Value.int .i64)).length)).toArray = (l.map (Value.int .i64)).toArray := by
        have : cur.toList.drop (0 + (l.map (Value.int .i64)).length) = [] := by
          apply List.drop_eq_nil_of_le
          simp; omega
        rw [this]; simp
      rw [e, List.length_map, hl] at hr
      exact ⟨_, hr, setRow_heap w g _ _ t _ hg, ⟨rfl, rfl, rfl, by simp [World.setRow], fun k hk => setRow_other w g k _ (by omega)⟩, by simp [World.setRow]⟩
    · intro j v hj
      obtain ⟨hj1, hj2⟩ := List.getElem?_eq_some_iff.1 hj
      obtain ⟨b', off', e, _, hc⟩ := hsrc j (by simpa using hj1)
      simp only [Option.some.injEq, Addr.mk.injEq] at e
      obtain ⟨rfl, rfl, _⟩ := e
      rw [Addr.add_lit, hc]
      simp at hj2
      rw [← hj2]
end Go.Proofs.Qxb6608919a
