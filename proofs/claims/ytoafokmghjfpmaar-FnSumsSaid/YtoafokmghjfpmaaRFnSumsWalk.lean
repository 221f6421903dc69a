/- The walk of FnSums: for all three bytes the law returns true; the world is unchanged. -/
import Derived.Test.YtoafokmghjfpmaaRSums
namespace Go.Proofs.YtoafokmghjfpmaaR
open Go.RowKit
set_option linter.unusedVariables false

theorem heldGo_any (x : Int) (w : World) (h1 : -1000 ≤ x) (h2 : x ≤ 1000) :
    Calls Try.prog 9 #[.int .i64 x] w fun e w' => e = .returned (.int .i64 (held255 x)) ∧ w = w' := by
  by_cases h1 : x < 0
  · go_enter Try.func9, Try.ntmps9
    go_wp2
    go_ret
    exact ⟨ret_int (held_lo h1), rfl⟩
  · by_cases h2 : 255 < x
    · go_enter Try.func9, Try.ntmps9
      go_wp2
      go_ret
      exact ⟨ret_int (held_hi h2), rfl⟩
    · go_enter Try.func9, Try.ntmps9
      go_wp2
      go_ret
      exact ⟨ret_int (held_mid (by omega) (by omega)), rfl⟩

theorem fnSums_walk (x : Int) (wx : (Lit.int .u8 x).wf = true) (y : Int) (wy : (Lit.int .u8 y).wf = true) (z : Int) (wz : (Lit.int .u8 z).wf = true) (w : World) :
    Calls Try.prog 3 #[.int .u8 x, .int .u8 y, .int .u8 z] w fun e w' => e = .returned (.bool true) ∧ Below w.heap.size w w' := by
  obtain ⟨hx0, hx⟩ := u8_bounds wx
  obtain ⟨hy0, hy⟩ := u8_bounds wy
  obtain ⟨hz0, hz⟩ := u8_bounds wz
  clear wx wy wz
  have hd1 := (half_bd x y hx0 hx hy0 hy).1
  have hd2 := (half_bd x y hx0 hx hy0 hy).2
  go_enter Try.func3, Try.ntmps3
  go_wp2_with (first
    | (go_at_call 7; refine (average_any _ _ _ (by omega) (by omega) (by omega) (by omega)).mono ?_; rintro e w' ⟨rfl, rfl⟩)
    | (go_at_call 8; refine (full_any _ _ _ _ (by omega) (by omega) (by omega) (by omega) (by omega) (by omega)).mono ?_; rintro e w' ⟨rfl, rfl⟩)
    | (go_at_call 10; refine (half_any _ _ _ (by omega) (by omega) (by omega) (by omega)).mono ?_; rintro e w' ⟨rfl, rfl⟩)
    | (go_at_call 9; refine (heldGo_any _ _ (by omega) (by omega)).mono ?_; rintro e w' ⟨rfl, rfl⟩)
    | (go_at_call 11; refine (readSums_any _).mono ?_; rintro e w' ⟨rfl, rfl⟩))
  go_ret
  exact ⟨rfl, Below.refl _ _⟩
end Go.Proofs.YtoafokmghjfpmaaR
