/- The package's large motion prediction: predFunc16TM. -/
import Derived.Test.YtmdijdoaijnpaaaDoorPredB
import Derived.Test.YtmdijdoaijnpaaaDoorFilt
import Derived.Deep.RegionWith
namespace Go.Proofs.YtmdijdoaijnpaaaDoor
open Go.RowKit
set_option linter.unusedVariables false

theorem ret_i32 {a b : Int} (h : a = b) : Ending.returned (.int .i32 a) = .returned (.int .i32 b) := by rw [h]
theorem clip_any (x : Int) (w : World) (h1 : -1000000 ≤ x) (h2 : x ≤ 1000000) :
    Calls Tryd.prog 85 #[.int .i32 x, .int .i32 0, .int .i32 255] w fun e w' => e = .returned (.int .i32 (hld 0 255 x)) ∧ w = w' := by
  by_cases h : x < 0
  · go_enter Tryd.func85, Tryd.ntmps85
    go_wp2
    go_ret
    exact ⟨ret_i32 (by unfold hld; (repeat' split) <;> omega), rfl⟩
  · by_cases h3 : 255 < x
    · go_enter Tryd.func85, Tryd.ntmps85
      go_wp2
      go_ret
      exact ⟨ret_i32 (by unfold hld; (repeat' split) <;> omega), rfl⟩
    · go_enter Tryd.func85, Tryd.ntmps85
      go_wp2
      go_ret
      exact ⟨ret_i32 (by unfold hld; (repeat' split) <;> omega), rfl⟩

/-- What motion foretells. -/
def tmF (y : Nat → Int) (j i : Nat) : Int := hld 0 255 (-(y 7) + y (32 * (j + 1) + 7) + y (8 + i))

set_option maxRecDepth 100000 in
set_option maxHeartbeats 3000000 in
theorem p16TM (g : Nat) (y : Nat → Int) (w : World) (hY : Ybr w g y) (hv : ∀ k, 0 ≤ y k ∧ y k ≤ 255) :
    Calls Tryd.prog 53 #[.pointer (some ⟨g, 0, none⟩), .int .i64 1, .int .i64 8] w fun e w' => e = .returned (.tuple #[]) ∧ Ybr w' g (blkTo y (tmF y) 256) ∧ w.grownBy w' (some g) := by
  have HY := Lib.hid hY
  have HV := Lib.hid hv
  clear hY hv
  have k0 : w.cell? ⟨g, 1657, none⟩ = some (.int .u8 (y 7)) := HY.out.1 7 (by decide)
  obtain ⟨a0, a1⟩ := HV.out 7
  go_enter Tryd.func53, Tryd.ntmps53
  go_wp2
  clear k0
  go_loopw [7] (fun i wr => ∃ p : Nat, p ≤ 16 ∧ i = .int .i64 p ∧ Hid (Ybr wr g (blkTo y (tmF y) (16 * p)) ∧ w.grownBy wr (some g))) (fun i _ => 16 - (intOf i).toNat)
  case atStart => exact ⟨0, by omega, rfl, Lib.hid ⟨HY.out.congr (fun i _ => (blkTo_zero _ _ i).symm), World.grownBy.refl _ _⟩⟩
  case round =>
    obtain ⟨p, hp, rfl, hR⟩ := hrel
    by_cases hlt : p < 16
    · have hbb : decide ((p : Int) < 16) = true := decide_eq_true (by omega)
      have l0 : wr.cell? ⟨g, 1650 + (1 + p) * 32 + 7, none⟩ = some (.int .u8 (y (32 * (p + 1) + 7))) := by rw [show 1650 + (1 + p) * 32 + 7 = 1650 + (32 * (p + 1) + 7) by omega, hR.out.1.1 (32 * (p + 1) + 7) (by omega), blkTo_left]
      obtain ⟨b0, b1⟩ := HV.out (32 * (p + 1) + 7)
      have q3 : (1 + (p : Int)).toNat = 1 + p := by omega
      have q6 : (0 : Int) ≤ 1 + (p : Int) := by omega
      have q7 : 1 + (p : Int) < 26 := by omega
      go_wp2
      clear l0
      go_loopw [9] (fun i wr => ∃ q : Nat, q ≤ 16 ∧ i = .int .i64 q ∧ Hid (Ybr wr g (blkTo y (tmF y) (16 * p + q)) ∧ w.grownBy wr (some g))) (fun i _ => 16 - (intOf i).toNat)
      case atStart => exact ⟨0, by omega, rfl, hR⟩
      case round =>
        obtain ⟨q, hq, rfl, hQ⟩ := hrel
        by_cases hlq : q < 16
        · have d0 := hQ.out.1.1 (32 * (p + 1) + 8 + q) (by omega)
          have z0 := hQ.out.1.2 (32 * (p + 1) + 8 + q) (by omega)
          rw [← adr] at d0 z0
          have r0 : wr.cell? ⟨g, 1650 + (8 + q), none⟩ = some (.int .u8 (y (8 + q))) := by rw [hQ.out.1.1 (8 + q) (by omega), blkTo_row0 _ _ _ _ (by omega)]
          obtain ⟨e0, e1⟩ := HV.out (8 + q)
          have HE : Hid (Ybr (wr.setCell ⟨g, 1650 + (1 + p) * 32 + (8 + q), none⟩ (.int .u8 (hld 0 255 (-(y 7) + y (32 * (p + 1) + 7) + y (8 + q))))).drew g (blkTo y (tmF y) (16 * p + (q + 1))) ∧ w.grownBy (wr.setCell ⟨g, 1650 + (1 + p) * 32 + (8 + q), none⟩ (.int .u8 (hld 0 255 (-(y 7) + y (32 * (p + 1) + 7) + y (8 + q))))).drew (some g)) := by
            rw [adr]
            exact Lib.hid ⟨(Ybr.set (w := wr) hQ.out.1 (32 * (p + 1) + 8 + q) (by omega) _).congr (fun k _ => blkTo_step y (tmF y) p q k hlt hlq), grownBy.trans (grownBy.trans hQ.out.2 (grownBy_setCell _ _ _)) (grownBy_drewN _ 1 _)⟩
          generalize blkTo y (tmF y) (16 * p + q) (32 * (p + 1) + 8 + q) = old at d0
          generalize y (32 * (p + 1) + 7) = yl at *
          generalize y (8 + q) = yt at *
          generalize y 7 = yc at *
          obtain ⟨h0, h1⟩ := hld_range (lo := 0) (hi := 255) (by decide) (-yc + yl + yt)
          have q5 : (8 + (q : Int)).toNat = 8 + q := by omega
          have q8 : (0 : Int) ≤ 8 + (q : Int) := by omega
          have q9 : 8 + (q : Int) < 32 := by omega
          obtain ⟨w1, w2⟩ := wr2 p q hlt hlq
          go_wp2_with fail
          go_region_with (first | (go_at_call 85; refine (clip_any _ _ (by clear w1 w2; omega) (by clear w1 w2; omega)).mono ?_; rintro e w' ⟨rfl, rfl⟩))
          all_goals
            go_wp2
            go_roundw
            case rel => exact ⟨q + 1, by omega, by go_num, HE⟩
            case measure => simp [intOf]; omega
        · obtain rfl : q = 16 := by omega
          go_wp2
          go_roundw
          case rel => exact ⟨p + 1, by omega, by go_num, hQ⟩
          case measure => simp [intOf]; omega
    · obtain rfl : p = 16 := by omega
      go_wp2
      go_end0
      exact ⟨rfl, hR.out⟩
end Go.Proofs.YtmdijdoaijnpaaaDoor
