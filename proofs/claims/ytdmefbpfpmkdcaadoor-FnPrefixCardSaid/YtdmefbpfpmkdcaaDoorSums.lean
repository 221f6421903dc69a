/- The contracts of the means and sums (avg2, clampAddSubtractFull, clampAddSubtractHalf and the doors above them), and of readSums: plain integers in, plain integers out, the world unchanged. -/
import Derived.Test.YtdmefbpfpmkdcaaDoorCommon
namespace Go.Proofs.YtdmefbpfpmkdcaaDoor
open Go.RowKit
set_option linter.unusedVariables false


/-- A number held between 0 and 255. -/
def held255 (x : Int) : Int := if x < 0 then 0 else if 255 < x then 255 else x
theorem held_lo {x : Int} (h : x < 0) : 0 = held255 x := by simp [held255, h]
theorem held_hi {x : Int} (h : 255 < x) : 255 = held255 x := by simp [held255, h]; omega
theorem held_mid {x : Int} (h : 0 ≤ x) (h2 : x ≤ 255) : x = held255 x := by unfold held255; rw [if_neg (by omega), if_neg (by omega)]
theorem held_range (x : Int) : 0 ≤ held255 x ∧ held255 x ≤ 255 := by unfold held255; split <;> (try split) <;> omega
theorem half_bd (x y : Int) (hx0 : 0 ≤ x) (hx : x ≤ 255) (hy0 : 0 ≤ y) (hy : y ≤ 255) : -128 ≤ (x - y).tdiv 2 ∧ (x - y).tdiv 2 ≤ 128 := by
  by_cases h : 0 ≤ x - y
  · rw [Int.tdiv_eq_ediv_of_nonneg h]; omega
  · have e : (x - y).tdiv 2 = -((y - x).tdiv 2) := by rw [← Int.neg_tdiv]; congr 1; omega
    rw [e, Int.tdiv_eq_ediv_of_nonneg (by omega)]; omega

theorem average_any (x y : Int) (w : World) (hx0 : 0 ≤ x) (hx : x ≤ 255) (hy0 : 0 ≤ y) (hy : y ≤ 255) :
    Calls Tryd.prog 28 #[.int .i64 x, .int .i64 y] w fun e w' => e = .returned (.int .i64 ((x + y) / 2)) ∧ w = w' := by
  go_enter Tryd.func28, Tryd.ntmps28
  go_wp2
  go_ret
  exact ⟨rfl, rfl⟩

theorem full_any (x y z : Int) (w : World) (hx0 : 0 ≤ x) (hx : x ≤ 255) (hy0 : 0 ≤ y) (hy : y ≤ 255) (hz0 : 0 ≤ z) (hz : z ≤ 255) :
    Calls Tryd.prog 29 #[.int .i64 x, .int .i64 y, .int .i64 z] w fun e w' => e = .returned (.int .i64 (held255 (x + y - z))) ∧ w = w' := by
  by_cases h1 : x + y - z < 0
  · go_enter Tryd.func29, Tryd.ntmps29
    go_wp2
    go_ret
    exact ⟨ret_int (held_lo h1), rfl⟩
  · by_cases h2 : 255 < x + y - z
    · go_enter Tryd.func29, Tryd.ntmps29
      go_wp2
      go_ret
      exact ⟨ret_int (held_hi h2), rfl⟩
    · go_enter Tryd.func29, Tryd.ntmps29
      go_wp2
      go_ret
      exact ⟨ret_int (held_mid (by omega) (by omega)), rfl⟩

theorem half_any (x y : Int) (w : World) (hx0 : 0 ≤ x) (hx : x ≤ 255) (hy0 : 0 ≤ y) (hy : y ≤ 255) :
    Calls Tryd.prog 30 #[.int .i64 x, .int .i64 y] w fun e w' => e = .returned (.int .i64 (held255 (x + (x - y).tdiv 2))) ∧ w = w' := by
  have hd1 := (half_bd x y hx0 hx hy0 hy).1
  have hd2 := (half_bd x y hx0 hx hy0 hy).2
  by_cases h1 : x + (x - y).tdiv 2 < 0
  · go_enter Tryd.func30, Tryd.ntmps30
    go_wp2
    go_ret
    exact ⟨ret_int (held_lo h1), rfl⟩
  · by_cases h2 : 255 < x + (x - y).tdiv 2
    · go_enter Tryd.func30, Tryd.ntmps30
      go_wp2
      go_ret
      exact ⟨ret_int (held_hi h2), rfl⟩
    · go_enter Tryd.func30, Tryd.ntmps30
      go_wp2
      go_ret
      exact ⟨ret_int (held_mid (by omega) (by omega)), rfl⟩

theorem readSums_any (w : World) :
    Calls Tryd.prog 10 #[] w fun e w' => e = .returned (.bool true) ∧ w = w' := by
  go_enter Tryd.func10, Tryd.ntmps10
  go_wp2
  go_ret
  exact ⟨rfl, rfl⟩
end Go.Proofs.YtdmefbpfpmkdcaaDoor
