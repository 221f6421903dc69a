/- The package's small predictions DC and TM. Printed by wip/gen_pred4.py. -/
import Derived.Test.YtmdijdoaijnpaaaDoorBlk4
namespace Go.Proofs.YtmdijdoaijnpaaaDoor
open Go.RowKit
set_option linter.unusedVariables false

set_option maxRecDepth 100000 in
set_option maxHeartbeats 1600000 in
theorem p4DC (g : Nat) (y : Nat → Int) (w : World) (hY : Ybr w g y) (hv : ∀ k, 0 ≤ y k ∧ y k ≤ 255) :
    Calls Tryd.prog 69 #[.pointer (some ⟨g, 0, none⟩), .int .i64 1, .int .i64 8] w fun e w' => e = .returned (.tuple #[]) ∧ Ybr w' g (blk4 y (fun _ _ => (4 + sumF (topF y) 4 + sumF (leftF y) 4) / 8) 16) ∧ w.grownBy w' (some g) := by
  have HY := Lib.hid hY
  have HV := Lib.hid hv
  clear hY hv
  go_enter Tryd.func69, Tryd.ntmps69
  go_wp2
  go_loopw [6, 7] (fun s i wr => ∃ p : Nat, p ≤ 4 ∧ i = .int .i64 p ∧ s = .int .u32 (4 + sumF (topF y) p) ∧ Hid (wr = w)) (fun _ i _ => 4 - (intOf i).toNat)
  case atStart => exact ⟨0, by omega, rfl, by simp [sumF], Lib.hid rfl⟩
  case round =>
    obtain ⟨p, hp, rfl, rfl, hR⟩ := hrel
    obtain rfl := hR.out.symm
    by_cases hlt : p < 4
    · obtain ⟨sa, sb⟩ := sumF_range (topF y) (fun i => HV.out _) p
      obtain ⟨va, vb⟩ := HV.out (8 + p)
      have r0 : w.cell? ⟨g, 1650 + (8 + p), none⟩ = some (.int .u8 (y (8 + p))) := HY.out.1 (8 + p) (by omega)
      have HS : Hid (sumF (topF y) (p + 1) = sumF (topF y) p + y (8 + p)) := Lib.hid rfl
      have q6 : (0 : Int) ≤ 1 + (p : Int) := by omega
      have q7 : 1 + (p : Int) < 26 := by omega
      have q8 : (0 : Int) ≤ 8 + (p : Int) := by omega
      have q9 : 8 + (p : Int) < 32 := by omega
      have q3 : (1 + (p : Int)).toNat = 1 + p := by omega
      have q5 : (8 + (p : Int)).toNat = 8 + p := by omega
      generalize sumF (topF y) p = s at *
      generalize y (8 + p) = v at *
      clear hR
      go_wp2
      go_roundw
      case rel => exact ⟨p + 1, by omega, by go_num, by (rw [HS.out]; congr 1; omega), Lib.hid (by first | rfl | trivial)⟩
      case measure => simp [intOf]; omega
    · obtain rfl : p = 4 := by omega
      obtain ⟨sa0, sb0⟩ := sumF_range (topF y) (fun i => HV.out _) 4
      clear hR hlt hp
      go_wp2
      go_loopw [6, 8] (fun s i wr => ∃ p : Nat, p ≤ 4 ∧ i = .int .i64 p ∧ s = .int .u32 (4 + sumF (topF y) 4 + sumF (leftF y) p) ∧ Hid (wr = w)) (fun _ i _ => 4 - (intOf i).toNat)
      case atStart => exact ⟨0, by omega, rfl, by simp [sumF], Lib.hid rfl⟩
      case round =>
        obtain ⟨p, hp, rfl, rfl, hR⟩ := hrel
        obtain rfl := hR.out.symm
        by_cases hlt : p < 4
        · obtain ⟨sa, sb⟩ := sumF_range (leftF y) (fun i => HV.out _) p
          obtain ⟨va, vb⟩ := HV.out (32 * (p + 1) + 7)
          have r0 : w.cell? ⟨g, 1650 + (1 + p) * 32 + 7, none⟩ = some (.int .u8 (y (32 * (p + 1) + 7))) := by rw [show 1650 + (1 + p) * 32 + 7 = 1650 + (32 * (p + 1) + 7) by omega]; exact HY.out.1 (32 * (p + 1) + 7) (by omega)
          have HS : Hid (sumF (leftF y) (p + 1) = sumF (leftF y) p + y (32 * (p + 1) + 7)) := Lib.hid rfl
          have q6 : (0 : Int) ≤ 1 + (p : Int) := by omega
          have q7 : 1 + (p : Int) < 26 := by omega
          have q8 : (0 : Int) ≤ 8 + (p : Int) := by omega
          have q9 : 8 + (p : Int) < 32 := by omega
          have q3 : (1 + (p : Int)).toNat = 1 + p := by omega
          have q5 : (8 + (p : Int)).toNat = 8 + p := by omega
          generalize sumF (leftF y) p = s at *
          generalize y (32 * (p + 1) + 7) = v at *
          clear hR
          go_wp2
          go_roundw
          case rel => exact ⟨p + 1, by omega, by go_num, by (rw [HS.out]; congr 1; omega), Lib.hid (by first | rfl | trivial)⟩
          case measure => simp [intOf]; omega
        · obtain rfl : p = 4 := by omega
          obtain ⟨sa1, sb1⟩ := sumF_range (leftF y) (fun i => HV.out _) 4
          clear hR hlt hp
          obtain ⟨avg, havg⟩ : ∃ avg, avg = (4 + sumF (topF y) 4 + sumF (leftF y) 4) / 8 := ⟨_, rfl⟩
          have HAV := Lib.hid havg
          have v0 : 0 ≤ avg := by omega
          have v1 : avg ≤ 255 := by omega
          have va : (4 + sumF (topF y) 4 + sumF (leftF y) 4) / 8 = avg := havg.symm
          clear havg
          go_wp2
          go_loopw [10] (fun i wr => ∃ p : Nat, p ≤ 4 ∧ i = .int .i64 p ∧ Hid (Ybr wr g (blk4 y (fun _ _ => avg) (4 * p)) ∧ w.grownBy wr (some g))) (fun i _ => 4 - (intOf i).toNat)
          case atStart => exact ⟨0, by omega, rfl, Lib.hid ⟨HY.out.congr (fun i _ => (blk4_zero _ _ i).symm), World.grownBy.refl _ _⟩⟩
          case round =>
            obtain ⟨p, hp, rfl, hR⟩ := hrel
            by_cases hlt : p < 4
            · have hbb : decide ((p : Int) < 4) = true := decide_eq_true (by omega)
              go_wp2
              go_loopw [11] (fun i wr => ∃ q : Nat, q ≤ 4 ∧ i = .int .i64 q ∧ Hid (Ybr wr g (blk4 y (fun _ _ => avg) (4 * p + q)) ∧ w.grownBy wr (some g))) (fun i _ => 4 - (intOf i).toNat)
              case atStart => exact ⟨0, by omega, rfl, hR⟩
              case round =>
                obtain ⟨q, hq, rfl, hQ⟩ := hrel
                by_cases hlq : q < 4
                · have d0 := hQ.out.1.1 (32 * (p + 1) + 8 + q) (by omega)
                  have z0 := hQ.out.1.2 (32 * (p + 1) + 8 + q) (by omega)
                  rw [← adr4] at d0 z0
                  have HE : Hid (Ybr (wr.setCell ⟨g, 1650 + (1 + p) * 32 + (8 + q), none⟩ (.int .u8 avg)) g (blk4 y (fun _ _ => avg) (4 * p + (q + 1))) ∧ w.grownBy (wr.setCell ⟨g, 1650 + (1 + p) * 32 + (8 + q), none⟩ (.int .u8 avg)) (some g)) := by
                    rw [adr4]
                    exact Lib.hid ⟨(hQ.out.1.set (32 * (p + 1) + 8 + q) (by omega) _).congr (fun k _ => blk4_step y _ p q k hlt hlq), grownBy.trans hQ.out.2 (grownBy_setCell _ _ _)⟩
                  generalize blk4 y (fun _ _ => avg) (4 * p + q) (32 * (p + 1) + 8 + q) = old at d0
                  have q3 : (1 + (p : Int)).toNat = 1 + p := by omega
                  have q5 : (8 + (q : Int)).toNat = 8 + q := by omega
                  have q6 : (0 : Int) ≤ 1 + (p : Int) := by omega
                  have q7 : 1 + (p : Int) < 26 := by omega
                  have q8 : (0 : Int) ≤ 8 + (q : Int) := by omega
                  have q9 : 8 + (q : Int) < 32 := by omega
                  go_wp2
                  go_roundw
                  case rel => first | exact ⟨q + 1, by omega, by go_num, HE⟩ | ((repeat apply Exists.intro); refine ⟨?_, rfl⟩; exact ⟨q + 1, by omega, by go_num, HE⟩)
                  case measure => simp [intOf]; omega
                · obtain rfl : q = 4 := by omega
                  go_wp2
                  go_roundw
                  case rel => exact ⟨p + 1, by omega, by go_num, hQ⟩
                  case measure => simp [intOf]; omega
            · obtain rfl : p = 4 := by omega
              go_wp2
              go_end0
              have hfin := hR.out
              rw [HAV.out] at hfin
              exact ⟨rfl, hfin⟩


set_option maxRecDepth 100000 in
set_option maxHeartbeats 3000000 in
theorem p4TM (g : Nat) (y : Nat → Int) (w : World) (hY : Ybr w g y) (hv : ∀ k, 0 ≤ y k ∧ y k ≤ 255) :
    Calls Tryd.prog 70 #[.pointer (some ⟨g, 0, none⟩), .int .i64 1, .int .i64 8] w fun e w' => e = .returned (.tuple #[]) ∧ Ybr w' g (blk4 y (tmF y) 16) ∧ w.grownBy w' (some g) := by
  have HY := Lib.hid hY
  have HV := Lib.hid hv
  clear hY hv
  have k0 : w.cell? ⟨g, 1657, none⟩ = some (.int .u8 (y 7)) := HY.out.1 7 (by decide)
  obtain ⟨a0, a1⟩ := HV.out 7
  go_enter Tryd.func70, Tryd.ntmps70
  go_wp2
  clear k0
  go_loopw [7] (fun i wr => ∃ p : Nat, p ≤ 4 ∧ i = .int .i64 p ∧ Hid (Ybr wr g (blk4 y (tmF y) (4 * p)) ∧ w.grownBy wr (some g))) (fun i _ => 4 - (intOf i).toNat)
  case atStart => exact ⟨0, by omega, rfl, Lib.hid ⟨HY.out.congr (fun i _ => (blk4_zero _ _ i).symm), World.grownBy.refl _ _⟩⟩
  case round =>
    obtain ⟨p, hp, rfl, hR⟩ := hrel
    by_cases hlt : p < 4
    · have hbb : decide ((p : Int) < 4) = true := decide_eq_true (by omega)
      have l0 : wr.cell? ⟨g, 1650 + (1 + p) * 32 + 7, none⟩ = some (.int .u8 (y (32 * (p + 1) + 7))) := by rw [show 1650 + (1 + p) * 32 + 7 = 1650 + (32 * (p + 1) + 7) by omega, hR.out.1.1 (32 * (p + 1) + 7) (by omega), blk4_left]
      obtain ⟨b0, b1⟩ := HV.out (32 * (p + 1) + 7)
      have q3 : (1 + (p : Int)).toNat = 1 + p := by omega
      have q6 : (0 : Int) ≤ 1 + (p : Int) := by omega
      have q7 : 1 + (p : Int) < 26 := by omega
      go_wp2
      clear l0
      go_loopw [9] (fun i wr => ∃ q : Nat, q ≤ 4 ∧ i = .int .i64 q ∧ Hid (Ybr wr g (blk4 y (tmF y) (4 * p + q)) ∧ w.grownBy wr (some g))) (fun i _ => 4 - (intOf i).toNat)
      case atStart => exact ⟨0, by omega, rfl, hR⟩
      case round =>
        obtain ⟨q, hq, rfl, hQ⟩ := hrel
        by_cases hlq : q < 4
        · have d0 := hQ.out.1.1 (32 * (p + 1) + 8 + q) (by omega)
          have z0 := hQ.out.1.2 (32 * (p + 1) + 8 + q) (by omega)
          rw [← adr4] at d0 z0
          have r0 : wr.cell? ⟨g, 1650 + (8 + q), none⟩ = some (.int .u8 (y (8 + q))) := by rw [hQ.out.1.1 (8 + q) (by omega), blk4_row0 _ _ _ _ (by omega)]
          obtain ⟨e0, e1⟩ := HV.out (8 + q)
          have HE : Hid (Ybr (wr.setCell ⟨g, 1650 + (1 + p) * 32 + (8 + q), none⟩ (.int .u8 (hld 0 255 (-(y 7) + y (32 * (p + 1) + 7) + y (8 + q))))).drew g (blk4 y (tmF y) (4 * p + (q + 1))) ∧ w.grownBy (wr.setCell ⟨g, 1650 + (1 + p) * 32 + (8 + q), none⟩ (.int .u8 (hld 0 255 (-(y 7) + y (32 * (p + 1) + 7) + y (8 + q))))).drew (some g)) := by
            rw [adr4]
            exact Lib.hid ⟨(Ybr.set (w := wr) hQ.out.1 (32 * (p + 1) + 8 + q) (by omega) _).congr (fun k _ => blk4_step y (tmF y) p q k hlt hlq), grownBy.trans (grownBy.trans hQ.out.2 (grownBy_setCell _ _ _)) (grownBy_drewN _ 1 _)⟩
          generalize blk4 y (tmF y) (4 * p + q) (32 * (p + 1) + 8 + q) = old at d0
          generalize y (32 * (p + 1) + 7) = yl at *
          generalize y (8 + q) = yt at *
          generalize y 7 = yc at *
          obtain ⟨h0, h1⟩ := hld_range (lo := 0) (hi := 255) (by decide) (-yc + yl + yt)
          have q5 : (8 + (q : Int)).toNat = 8 + q := by omega
          have q8 : (0 : Int) ≤ 8 + (q : Int) := by omega
          have q9 : 8 + (q : Int) < 32 := by omega
          obtain ⟨w1, w2⟩ := wr4 p q hlt hlq
          go_wp2_with fail
          go_region_with (first | (go_at_call 85; refine (clip_any _ _ (by clear w1 w2; omega) (by clear w1 w2; omega)).mono ?_; rintro e w' ⟨rfl, rfl⟩))
          all_goals
            go_wp2
            go_roundw
            case rel => exact ⟨q + 1, by omega, by go_num, HE⟩
            case measure => simp [intOf]; omega
        · obtain rfl : q = 4 := by omega
          go_wp2
          go_roundw
          case rel => exact ⟨p + 1, by omega, by go_num, hQ⟩
          case measure => simp [intOf]; omega
    · obtain rfl : p = 4 := by omega
      go_wp2
      go_end0
      exact ⟨rfl, hR.out⟩
end Go.Proofs.YtmdijdoaijnpaaaDoor
