import Derived.Test.Qxb6608919aRows
import Derived.WalkKit
namespace Go.Proofs.Qxb6608919a
open Go.RowKit

/-- Block b is a row of its own: the cells l, of type t, none frozen. -/
def Row (w : World) (b : Nat) (t : TypeId) (l : List Value) : Prop := w.heap[b]? = some (.cells l.toArray t (0, 0))

theorem Row.lt {w : World} {b : Nat} {t : TypeId} {l : List Value} (h : Row w b t l) : b < w.heap.size := by
  obtain ⟨hlt, _⟩ := Array.getElem?_eq_some_iff.1 h
  exact hlt
theorem Row.cell {w : World} {b : Nat} {t : TypeId} {l : List Value} (h : Row w b t l) (i : Nat) : w.cell? ⟨b, i, none⟩ = l[i]? := by
  unfold Row at h
  simp [World.cell?, h]
theorem Row.frozen {w : World} {b : Nat} {t : TypeId} {l : List Value} (h : Row w b t l) (i : Nat) : w.frozen? ⟨b, i, none⟩ = false := by
  unfold Row at h
  simp [World.frozen?, h]
theorem Row.set {w : World} {b : Nat} {t : TypeId} {l : List Value} (h : Row w b t l) (i : Nat) (v : Value) : Row (w.setCell ⟨b, i, none⟩ v) b t (l.set i v) := by
  unfold Row at h ⊢
  simp [World.setCell, Array.getElem?_modify, h]
theorem Row.other {w : World} {b : Nat} {t : TypeId} {l : List Value} (h : Row w b t l) {a : Addr} (ha : b ≠ a.block) (v : Value) : Row (w.setCell a v) b t l := by
  unfold Row at h ⊢
  rw [Below.heap_setCell _ _ _ _ ha]; exact h
theorem Row.alloc {w : World} {b : Nat} {t : TypeId} {l : List Value} (h : Row w b t l) (o : Obj) : Row (w.alloc o) b t l := by
  have := h.lt
  unfold Row at h ⊢
  rw [Below.heap_alloc _ _ _ this]; exact h
theorem Row.drew {w : World} {b : Nat} {t : TypeId} {l : List Value} (h : Row w b t l) : Row w.drew b t l := h
theorem Row.below {w w' : World} {B b : Nat} {t : TypeId} {l : List Value} (h : Row w b t l) (hb : Below B w w') (hlt : b < B) : Row w' b t l := by
  unfold Row at h ⊢
  rw [hb.block b hlt]; exact h
theorem heap_new (w : World) (o : Obj) : (w.alloc o).heap[w.heap.size]? = some o := by
  show (w.heap.push _)[w.heap.size]? = _
  simp
theorem Row.new (w : World) (t : TypeId) (l : List Value) : Row (w.alloc (.cells l.toArray t)) w.heap.size t l := by
  unfold Row
  show (w.heap.push _)[w.heap.size]? = _
  simp

end Go.Proofs.Qxb6608919a
