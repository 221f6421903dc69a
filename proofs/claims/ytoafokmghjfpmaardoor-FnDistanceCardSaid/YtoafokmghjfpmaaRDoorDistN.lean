/- The table of near distances (impl.Near) and the statement's row of 240 numbers (laws.near): contracts. -/
import Derived.Test.YtoafokmghjfpmaaRDoorSums
import Derived.Test.YtoafokmghjfpmaaRDoorObj
import Derived.Laws.AppendOwn
namespace Go.Proofs.YtoafokmghjfpmaaRDoor
open Go.RowKit
set_option linter.unusedVariables false

/-- The package's table of distances. -/
def dTab : List Int := [24, 7, 23, 25, 40, 6, 39, 41, 22, 26, 38, 42, 56, 5, 55, 57, 21, 27, 54, 58, 37, 43, 72, 4, 71, 73, 20, 28, 53, 59, 70, 74, 36, 44, 88, 69, 75, 52, 60, 3, 87, 89, 19, 29, 86, 90, 35, 45, 68, 76, 85, 91, 51, 61, 104, 2, 103, 105, 18, 30, 102, 106, 34, 46, 84, 92, 67, 77, 101, 107, 50, 62, 120, 1, 119, 121, 83, 93, 17, 31, 100, 108, 66, 78, 118, 122, 33, 47, 117, 123, 49, 63, 99, 109, 82, 94, 0, 116, 124, 65, 79, 16, 32, 98, 110, 48, 115, 125, 81, 95, 64, 114, 126, 97, 111, 80, 113, 127, 96, 112]
/-- It stands in memory. -/
def TabD (w : World) : Prop := ∀ i, i < 120 → w.cell? ⟨0, i, none⟩ = some (.int .u8 (dTab.getD i 0))
theorem dTab_range : ∀ i, i < 120 → 0 ≤ dTab.getD i 0 ∧ dTab.getD i 0 ≤ 127 := by decide +kernel
theorem TabD.lt {w : World} (h : TabD w) : 0 < w.heap.size := World.block_lt_of_cell? w _ (h 0 (by decide))
theorem TabD.below {w w' : World} {B : Nat} (h : TabD w) (hb : Below B w w') (hB : 0 < B) : TabD w' := fun i hi => by
  rw [hb.cell (p := ⟨0, i, none⟩) hB]; exact h i hi

/-- The numbers of the near places: columns to the left and rows above, by turns. -/
def nearF (j : Nat) : Int := if j % 2 = 0 then 8 - dTab.getD (j / 2) 0 % 16 else dTab.getD (j / 2) 0 / 16
theorem nearF_even (k : Nat) : nearF (2 * k) = 8 - dTab.getD k 0 % 16 := by unfold nearF; rw [if_pos (by omega), show 2 * k / 2 = k by omega]
theorem nearF_odd (k : Nat) : nearF (2 * k + 1) = dTab.getD k 0 / 16 := by unfold nearF; rw [if_neg (by omega), show (2 * k + 1) / 2 = k by omega]
theorem nearF_range : ∀ j, j < 240 → -7 ≤ nearF j ∧ nearF j ≤ 8 := by decide +kernel

theorem doorNear_any (k : Nat) (w : World) (hk : k < 120) (ht : TabD w) :
    Calls Tryd.prog 13 #[.int .i64 k] w fun e w' => e = .returned (.int .u8 (dTab.getD k 0)) ∧ w = w' := by
  have c0 := ht k hk
  clear ht
  obtain ⟨x, hx⟩ : ∃ x, x = dTab.getD k 0 := ⟨_, rfl⟩
  rw [← hx] at c0 ⊢
  clear hx
  go_enter Tryd.func13, Tryd.ntmps13
  go_wp2
  go_ret
  exact ⟨rfl, rfl⟩
end Go.Proofs.YtoafokmghjfpmaaRDoor
