/- A struct that lies alone in a block of the call's own: its fields as a list; how it stands behind stores, new blocks and calls. -/
import Derived.Test.YtdmefbpfpmkdcaaDoorCommon
namespace Go.Proofs.YtdmefbpfpmkdcaaDoor
open Go.RowKit

/-- Block g is a variable of type T whose cells are vs, not frozen. -/
def SObj (w : World) (g : Nat) (T : TypeId) (vs : List Value) : Prop := w.heap[g]? = some (.cells vs.toArray T (0, 0))

theorem SObj.cell {w : World} {g : Nat} {T : TypeId} {vs : List Value} (h : SObj w g T vs) (j : Nat) {v : Value} (hv : vs[j]? = some v) : w.cell? ⟨g, j, none⟩ = some v := by
  rw [cell_of_row w g j _ T (0, 0) h]; simpa using hv
theorem SObj.free {w : World} {g : Nat} {T : TypeId} {vs : List Value} (h : SObj w g T vs) (j : Nat) : w.frozen? ⟨g, j, none⟩ = false := frozen_of_row w g j _ T h
theorem SObj.lt {w : World} {g : Nat} {T : TypeId} {vs : List Value} (h : SObj w g T vs) : g < w.heap.size := (Array.getElem?_eq_some_iff.1 h).1
theorem SObj.set {w : World} {g : Nat} {T : TypeId} {vs : List Value} (h : SObj w g T vs) (j : Nat) (v : Value) : SObj (w.setCell ⟨g, j, none⟩ v) g T (vs.set j v) := by
  have := heap_setCell_same w g j _ T v h
  unfold SObj
  rw [this]; simp
theorem SObj.far {w : World} {g : Nat} {T : TypeId} {vs : List Value} (h : SObj w g T vs) (p : Addr) (hp : g ≠ p.block) (v : Value) : SObj (w.setCell p v) g T vs := by
  unfold SObj; rw [heap_setCell_other w p g v hp]; exact h
theorem SObj.alloc {w : World} {g : Nat} {T : TypeId} {vs : List Value} (h : SObj w g T vs) (o : Go.Obj) : SObj (w.alloc o) g T vs := by
  unfold SObj; rw [Below.heap_alloc w o g h.lt]; exact h
theorem SObj.drew {w : World} {g : Nat} {T : TypeId} {vs : List Value} (h : SObj w g T vs) : SObj w.drew g T vs := h
theorem SObj.drewN {w : World} {g : Nat} {T : TypeId} {vs : List Value} (h : SObj w g T vs) (d : Nat) : SObj (w.drewN d) g T vs := h
theorem SObj.below {w w' : World} {g B : Nat} {T : TypeId} {vs : List Value} (h : SObj w g T vs) (hb : Below B w w') (hg : g < B) : SObj w' g T vs := by
  unfold SObj; rw [hb.block g hg]; exact h
theorem SObj.grown {w w' : World} {g : Nat} {T : TypeId} {vs : List Value} {row : Option Nat} (h : SObj w g T vs) (hg : w.grownBy w' row) (hne : some g ≠ row) : SObj w' g T vs := by
  unfold SObj; rw [hg.block g h.lt hne]; exact h
theorem obj_new (w : World) (T : TypeId) (vs : List Value) : SObj (w.alloc (.cells vs.toArray T)) w.heap.size T vs := heap_alloc_new w _
end Go.Proofs.YtdmefbpfpmkdcaaDoor
