/- The reference's small predictions: two, three. -/
import Derived.Test.YtmdijdoaijnpaaaDoorBlk4
import Derived.Laws.Rows
import Derived.Deep.OwnRows
import Derived.Deep.MidRow
import Derived.Deep.RegionWith
namespace Go.Proofs.YtmdijdoaijnpaaaDoor
open Go.RowKit
set_option linter.unusedVariables false

/-- The array of what stands around. -/
def A13 (E : Nat → Int) (cs : Array Value) : Prop := cs = (cellsOf .i64 13 E).toArray
theorem A13.obj {E : Nat → Int} {cs : Array Value} (h : A13 E cs) (w : World) : (w.alloc (.cells cs 51)).heap[w.heap.size]? = some (.cells cs 51 (0, 0)) := heap_alloc_new w _
theorem A13.cell {E : Nat → Int} {cs : Array Value} (h : A13 E cs) (w : World) (k : Nat) (hk : k < 13) : (w.alloc (.cells cs 51)).cell? ⟨w.heap.size, k, none⟩ = some (.int .i64 (E k)) := by
  rw [cell_of_row _ _ k _ _ _ (heap_alloc_new w _), h]
  simp [cellsOf, hk]
theorem A13.below (w : World) (o : Go.Obj) : Below w.heap.size w (w.alloc o) := (Below.refl _ _).alloc (Nat.le_refl _) _
theorem info13 : (Tryd.prog.info? 51).map (·.size) = some 13 := by kernel_rfl
theorem A13.info {E : Nat → Int} {cs : Array Value} (h : A13 E cs) : (Tryd.prog.info? 51).map (·.size) = some cs.size := by rw [info13, h]; simp [cellsOf]
theorem ret_i64' {a b : Int} (h : a = b) : Ending.returned (.int .i64 a) = .returned (.int .i64 b) := by rw [h]

set_option maxRecDepth 100000 in
theorem three_any (E : Nat → Int) (cs : Array Value) (hcs : A13 E cs) (hE : ∀ k, 0 ≤ E k ∧ E k ≤ 255) (k : Nat) (h1 : 1 ≤ k) (h2 : k ≤ 11) (w : World) :
    Calls Tryd.prog 79 #[.agg cs, .int .i64 k] w fun e w' => e = .returned (.int .i64 (th E k)) ∧ Below w.heap.size w w' := by
  have HB := Lib.hid (A13.below w (.cells cs 51))
  have c0 := hcs.cell w (k - 1) (by omega)
  have c1 := hcs.cell w k (by omega)
  have c2 := hcs.cell w (k + 1) (by omega)
  obtain ⟨a0, a1⟩ := hE (k - 1)
  obtain ⟨b0, b1⟩ := hE k
  obtain ⟨d0, d1⟩ := hE (k + 1)
  have HT : Hid (th E k = (E (k - 1) + 2 * E k + E (k + 1) + 2) / 4) := Lib.hid rfl
  clear hE hcs
  generalize E (k - 1) = ea at *
  generalize E (k + 1) = ec at *
  generalize E k = eb at *
  have q1 : ((k : Int) - 1).toNat = k - 1 := by omega
  have q2 : ((k : Int) + 1).toNat = k + 1 := by omega
  have q3 : (0 : Int) ≤ (k : Int) - 1 := by omega
  go_enter Tryd.func79, Tryd.ntmps79
  go_wp2
  generalize World.alloc w _ = w1 at *
  have w1' : IntKind.i64.wrap ((k : Int) - 1) = (k : Int) - 1 := IntWalk.i64_in _ (by omega)
  go_region
  go_wp2
  go_ret
  exact ⟨ret_i64' (by rw [HT.out]), HB.out.drew⟩

set_option maxRecDepth 100000 in
theorem two_any (E : Nat → Int) (cs : Array Value) (hcs : A13 E cs) (hE : ∀ k, 0 ≤ E k ∧ E k ≤ 255) (k : Nat) (h2 : k ≤ 11) (w : World) :
    Calls Tryd.prog 86 #[.agg cs, .int .i64 k] w fun e w' => e = .returned (.int .i64 (tw E k)) ∧ Below w.heap.size w w' := by
  have HB := Lib.hid (A13.below w (.cells cs 51))
  have c1 := hcs.cell w k (by omega)
  have c2 := hcs.cell w (k + 1) (by omega)
  obtain ⟨b0, b1⟩ := hE k
  obtain ⟨d0, d1⟩ := hE (k + 1)
  have HT : Hid (tw E k = (E k + E (k + 1) + 1) / 2) := Lib.hid rfl
  clear hE hcs
  generalize E (k + 1) = ec at *
  generalize E k = eb at *
  have q2 : ((k : Int) + 1).toNat = k + 1 := by omega
  go_enter Tryd.func86, Tryd.ntmps86
  go_wp2
  generalize World.alloc w _ = w1 at *
  go_region
  go_wp2
  go_ret
  exact ⟨ret_i64' (by rw [HT.out]), HB.out.drew⟩
end Go.Proofs.YtmdijdoaijnpaaaDoor
