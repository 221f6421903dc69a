/- The package's large direct predictions: DC, DCTop, DCLeft (printed by wip/gen_pred16b.py). -/
import Derived.Test.YtmdijdoaijnpaaaDoorPredA
namespace Go.Proofs.YtmdijdoaijnpaaaDoor
open Go.RowKit
set_option linter.unusedVariables false

/-- The sum of the first m values. -/
def sumF (f : Nat → Int) : Nat → Int
  | 0 => 0
  | m + 1 => sumF f m + f m
theorem sumF_range (f : Nat → Int) (h : ∀ i, 0 ≤ f i ∧ f i ≤ 255) : ∀ m, 0 ≤ sumF f m ∧ sumF f m ≤ 255 * m
  | 0 => ⟨Int.le_refl _, Int.le_refl _⟩
  | m + 1 => by
    have := sumF_range f h m
    have := h m
    unfold sumF
    omega
def topF (y : Nat → Int) (i : Nat) : Int := y (8 + i)
def leftF (y : Nat → Int) (j : Nat) : Int := y (32 * (j + 1) + 7)

set_option maxRecDepth 100000 in
set_option maxHeartbeats 1600000 in
theorem p16Left (g : Nat) (y : Nat → Int) (w : World) (hY : Ybr w g y) (hv : ∀ k, 0 ≤ y k ∧ y k ≤ 255) :
    Calls Tryd.prog 57 #[.pointer (some ⟨g, 0, none⟩), .int .i64 1, .int .i64 8] w fun e w' => e = .returned (.tuple #[]) ∧ Ybr w' g (blkTo y (fun _ _ => (8 + sumF (topF y) 16) / 16) 256) ∧ w.grownBy w' (some g) := by
  have HY := Lib.hid hY
  have HV := Lib.hid hv
  clear hY hv
  go_enter Tryd.func57, Tryd.ntmps57
  go_wp2
  go_loopw [6, 7] (fun s i wr => ∃ p : Nat, p ≤ 16 ∧ i = .int .i64 p ∧ s = .int .u32 (8 + sumF (topF y) p) ∧ Hid (wr = w)) (fun _ i _ => 16 - (intOf i).toNat)
  case atStart => exact ⟨0, by omega, rfl, by simp [sumF], Lib.hid rfl⟩
  case round =>
    obtain ⟨p, hp, rfl, rfl, hR⟩ := hrel
    obtain rfl := hR.out.symm
    by_cases hlt : p < 16
    · obtain ⟨sa, sb⟩ := sumF_range (topF y) (fun i => HV.out _) p
      obtain ⟨va, vb⟩ := HV.out (8 + p)
      have r0 : w.cell? ⟨g, 1650 + (8 + p), none⟩ = some (.int .u8 (y (8 + p))) := HY.out.1 (8 + p) (by omega)
      have HS : Hid (sumF (topF y) (p + 1) = sumF (topF y) p + y (8 + p)) := Lib.hid rfl
      have q6 : (0 : Int) ≤ 1 + (p : Int) := by omega
      have q7 : 1 + (p : Int) < 26 := by omega
      have q8 : (0 : Int) ≤ 8 + (p : Int) := by omega
      have q9 : 8 + (p : Int) < 32 := by omega
      have q3 : (1 + (p : Int)).toNat = 1 + p := by omega
      have q5 : (8 + (p : Int)).toNat = 8 + p := by omega
      generalize sumF (topF y) p = s at *
      generalize y (8 + p) = v at *
      clear hR
      go_wp2
      go_roundw
      case rel => exact ⟨p + 1, by omega, by go_num, by (rw [HS.out]; congr 1; omega), Lib.hid (by first | rfl | trivial)⟩
      case measure => simp [intOf]; omega
    · obtain rfl : p = 16 := by omega
      obtain ⟨sa0, sb0⟩ := sumF_range (topF y) (fun i => HV.out _) 16
      clear hR hlt hp
      obtain ⟨avg, havg⟩ : ∃ avg, avg = (8 + sumF (topF y) 16) / 16 := ⟨_, rfl⟩
      have HAV := Lib.hid havg
      have v0 : 0 ≤ avg := by omega
      have v1 : avg ≤ 255 := by omega
      have va : (8 + sumF (topF y) 16) / 16 = avg := havg.symm
      clear havg
      go_wp2
      go_loopw [9] (fun i wr => ∃ p : Nat, p ≤ 16 ∧ i = .int .i64 p ∧ Hid (Ybr wr g (blkTo y (fun _ _ => avg) (16 * p)) ∧ w.grownBy wr (some g))) (fun i _ => 16 - (intOf i).toNat)
      case atStart => exact ⟨0, by omega, rfl, Lib.hid ⟨HY.out.congr (fun i _ => (blkTo_zero _ _ i).symm), World.grownBy.refl _ _⟩⟩
      case round =>
        obtain ⟨p, hp, rfl, hR⟩ := hrel
        by_cases hlt : p < 16
        · have hbb : decide ((p : Int) < 16) = true := decide_eq_true (by omega)
          go_wp2
          go_loopw [10] (fun i wr => ∃ q : Nat, q ≤ 16 ∧ i = .int .i64 q ∧ Hid (Ybr wr g (blkTo y (fun _ _ => avg) (16 * p + q)) ∧ w.grownBy wr (some g))) (fun i _ => 16 - (intOf i).toNat)
          case atStart => exact ⟨0, by omega, rfl, hR⟩
          case round =>
            obtain ⟨q, hq, rfl, hQ⟩ := hrel
            by_cases hlq : q < 16
            · have d0 := hQ.out.1.1 (32 * (p + 1) + 8 + q) (by omega)
              have z0 := hQ.out.1.2 (32 * (p + 1) + 8 + q) (by omega)
              rw [← adr] at d0 z0
              have HE : Hid (Ybr (wr.setCell ⟨g, 1650 + (1 + p) * 32 + (8 + q), none⟩ (.int .u8 avg)) g (blkTo y (fun _ _ => avg) (16 * p + (q + 1))) ∧ w.grownBy (wr.setCell ⟨g, 1650 + (1 + p) * 32 + (8 + q), none⟩ (.int .u8 avg)) (some g)) := by
                rw [adr]
                exact Lib.hid ⟨(hQ.out.1.set (32 * (p + 1) + 8 + q) (by omega) _).congr (fun k _ => blkTo_step y _ p q k hlt hlq), grownBy.trans hQ.out.2 (grownBy_setCell _ _ _)⟩
              generalize blkTo y (fun _ _ => avg) (16 * p + q) (32 * (p + 1) + 8 + q) = old at d0
              have q3 : (1 + (p : Int)).toNat = 1 + p := by omega
              have q5 : (8 + (q : Int)).toNat = 8 + q := by omega
              have q6 : (0 : Int) ≤ 1 + (p : Int) := by omega
              have q7 : 1 + (p : Int) < 26 := by omega
              have q8 : (0 : Int) ≤ 8 + (q : Int) := by omega
              have q9 : 8 + (q : Int) < 32 := by omega
              go_wp2
              go_roundw
              case rel => first | exact ⟨q + 1, by omega, by go_num, HE⟩ | ((repeat apply Exists.intro); refine ⟨?_, rfl⟩; exact ⟨q + 1, by omega, by go_num, HE⟩)
              case measure => simp [intOf]; omega
            · obtain rfl : q = 16 := by omega
              go_wp2
              go_roundw
              case rel => exact ⟨p + 1, by omega, by go_num, hQ⟩
              case measure => simp [intOf]; omega
        · obtain rfl : p = 16 := by omega
          go_wp2
          go_end0
          have hfin := hR.out
          rw [HAV.out] at hfin
          exact ⟨rfl, hfin⟩


set_option maxRecDepth 100000 in
set_option maxHeartbeats 1600000 in
theorem p16Top (g : Nat) (y : Nat → Int) (w : World) (hY : Ybr w g y) (hv : ∀ k, 0 ≤ y k ∧ y k ≤ 255) :
    Calls Tryd.prog 56 #[.pointer (some ⟨g, 0, none⟩), .int .i64 1, .int .i64 8] w fun e w' => e = .returned (.tuple #[]) ∧ Ybr w' g (blkTo y (fun _ _ => (8 + sumF (leftF y) 16) / 16) 256) ∧ w.grownBy w' (some g) := by
  have HY := Lib.hid hY
  have HV := Lib.hid hv
  clear hY hv
  go_enter Tryd.func56, Tryd.ntmps56
  go_wp2
  go_loopw [6, 7] (fun s i wr => ∃ p : Nat, p ≤ 16 ∧ i = .int .i64 p ∧ s = .int .u32 (8 + sumF (leftF y) p) ∧ Hid (wr = w)) (fun _ i _ => 16 - (intOf i).toNat)
  case atStart => exact ⟨0, by omega, rfl, by simp [sumF], Lib.hid rfl⟩
  case round =>
    obtain ⟨p, hp, rfl, rfl, hR⟩ := hrel
    obtain rfl := hR.out.symm
    by_cases hlt : p < 16
    · obtain ⟨sa, sb⟩ := sumF_range (leftF y) (fun i => HV.out _) p
      obtain ⟨va, vb⟩ := HV.out (32 * (p + 1) + 7)
      have r0 : w.cell? ⟨g, 1650 + (1 + p) * 32 + 7, none⟩ = some (.int .u8 (y (32 * (p + 1) + 7))) := by rw [show 1650 + (1 + p) * 32 + 7 = 1650 + (32 * (p + 1) + 7) by omega]; exact HY.out.1 (32 * (p + 1) + 7) (by omega)
      have HS : Hid (sumF (leftF y) (p + 1) = sumF (leftF y) p + y (32 * (p + 1) + 7)) := Lib.hid rfl
      have q6 : (0 : Int) ≤ 1 + (p : Int) := by omega
      have q7 : 1 + (p : Int) < 26 := by omega
      have q8 : (0 : Int) ≤ 8 + (p : Int) := by omega
      have q9 : 8 + (p : Int) < 32 := by omega
      have q3 : (1 + (p : Int)).toNat = 1 + p := by omega
      have q5 : (8 + (p : Int)).toNat = 8 + p := by omega
      generalize sumF (leftF y) p = s at *
      generalize y (32 * (p + 1) + 7) = v at *
      clear hR
      go_wp2
      go_roundw
      case rel => exact ⟨p + 1, by omega, by go_num, by (rw [HS.out]; congr 1; omega), Lib.hid (by first | rfl | trivial)⟩
      case measure => simp [intOf]; omega
    · obtain rfl : p = 16 := by omega
      obtain ⟨sa0, sb0⟩ := sumF_range (leftF y) (fun i => HV.out _) 16
      clear hR hlt hp
      obtain ⟨avg, havg⟩ : ∃ avg, avg = (8 + sumF (leftF y) 16) / 16 := ⟨_, rfl⟩
      have HAV := Lib.hid havg
      have v0 : 0 ≤ avg := by omega
      have v1 : avg ≤ 255 := by omega
      have va : (8 + sumF (leftF y) 16) / 16 = avg := havg.symm
      clear havg
      go_wp2
      go_loopw [9] (fun i wr => ∃ p : Nat, p ≤ 16 ∧ i = .int .i64 p ∧ Hid (Ybr wr g (blkTo y (fun _ _ => avg) (16 * p)) ∧ w.grownBy wr (some g))) (fun i _ => 16 - (intOf i).toNat)
      case atStart => exact ⟨0, by omega, rfl, Lib.hid ⟨HY.out.congr (fun i _ => (blkTo_zero _ _ i).symm), World.grownBy.refl _ _⟩⟩
      case round =>
        obtain ⟨p, hp, rfl, hR⟩ := hrel
        by_cases hlt : p < 16
        · have hbb : decide ((p : Int) < 16) = true := decide_eq_true (by omega)
          go_wp2
          go_loopw [10] (fun i wr => ∃ q : Nat, q ≤ 16 ∧ i = .int .i64 q ∧ Hid (Ybr wr g (blkTo y (fun _ _ => avg) (16 * p + q)) ∧ w.grownBy wr (some g))) (fun i _ => 16 - (intOf i).toNat)
          case atStart => exact ⟨0, by omega, rfl, hR⟩
          case round =>
            obtain ⟨q, hq, rfl, hQ⟩ := hrel
            by_cases hlq : q < 16
            · have d0 := hQ.out.1.1 (32 * (p + 1) + 8 + q) (by omega)
              have z0 := hQ.out.1.2 (32 * (p + 1) + 8 + q) (by omega)
              rw [← adr] at d0 z0
              have HE : Hid (Ybr (wr.setCell ⟨g, 1650 + (1 + p) * 32 + (8 + q), none⟩ (.int .u8 avg)) g (blkTo y (fun _ _ => avg) (16 * p + (q + 1))) ∧ w.grownBy (wr.setCell ⟨g, 1650 + (1 + p) * 32 + (8 + q), none⟩ (.int .u8 avg)) (some g)) := by
                rw [adr]
                exact Lib.hid ⟨(hQ.out.1.set (32 * (p + 1) + 8 + q) (by omega) _).congr (fun k _ => blkTo_step y _ p q k hlt hlq), grownBy.trans hQ.out.2 (grownBy_setCell _ _ _)⟩
              generalize blkTo y (fun _ _ => avg) (16 * p + q) (32 * (p + 1) + 8 + q) = old at d0
              have q3 : (1 + (p : Int)).toNat = 1 + p := by omega
              have q5 : (8 + (q : Int)).toNat = 8 + q := by omega
              have q6 : (0 : Int) ≤ 1 + (p : Int) := by omega
              have q7 : 1 + (p : Int) < 26 := by omega
              have q8 : (0 : Int) ≤ 8 + (q : Int) := by omega
              have q9 : 8 + (q : Int) < 32 := by omega
              go_wp2
              go_roundw
              case rel => first | exact ⟨q + 1, by omega, by go_num, HE⟩ | ((repeat apply Exists.intro); refine ⟨?_, rfl⟩; exact ⟨q + 1, by omega, by go_num, HE⟩)
              case measure => simp [intOf]; omega
            · obtain rfl : q = 16 := by omega
              go_wp2
              go_roundw
              case rel => exact ⟨p + 1, by omega, by go_num, hQ⟩
              case measure => simp [intOf]; omega
        · obtain rfl : p = 16 := by omega
          go_wp2
          go_end0
          have hfin := hR.out
          rw [HAV.out] at hfin
          exact ⟨rfl, hfin⟩


set_option maxRecDepth 100000 in
set_option maxHeartbeats 1600000 in
theorem p16DC (g : Nat) (y : Nat → Int) (w : World) (hY : Ybr w g y) (hv : ∀ k, 0 ≤ y k ∧ y k ≤ 255) :
    Calls Tryd.prog 52 #[.pointer (some ⟨g, 0, none⟩), .int .i64 1, .int .i64 8] w fun e w' => e = .returned (.tuple #[]) ∧ Ybr w' g (blkTo y (fun _ _ => (16 + sumF (topF y) 16 + sumF (leftF y) 16) / 32) 256) ∧ w.grownBy w' (some g) := by
  have HY := Lib.hid hY
  have HV := Lib.hid hv
  clear hY hv
  go_enter Tryd.func52, Tryd.ntmps52
  go_wp2
  go_loopw [6, 7] (fun s i wr => ∃ p : Nat, p ≤ 16 ∧ i = .int .i64 p ∧ s = .int .u32 (16 + sumF (topF y) p) ∧ Hid (wr = w)) (fun _ i _ => 16 - (intOf i).toNat)
  case atStart => exact ⟨0, by omega, rfl, by simp [sumF], Lib.hid rfl⟩
  case round =>
    obtain ⟨p, hp, rfl, rfl, hR⟩ := hrel
    obtain rfl := hR.out.symm
    by_cases hlt : p < 16
    · obtain ⟨sa, sb⟩ := sumF_range (topF y) (fun i => HV.out _) p
      obtain ⟨va, vb⟩ := HV.out (8 + p)
      have r0 : w.cell? ⟨g, 1650 + (8 + p), none⟩ = some (.int .u8 (y (8 + p))) := HY.out.1 (8 + p) (by omega)
      have HS : Hid (sumF (topF y) (p + 1) = sumF (topF y) p + y (8 + p)) := Lib.hid rfl
      have q6 : (0 : Int) ≤ 1 + (p : Int) := by omega
      have q7 : 1 + (p : Int) < 26 := by omega
      have q8 : (0 : Int) ≤ 8 + (p : Int) := by omega
      have q9 : 8 + (p : Int) < 32 := by omega
      have q3 : (1 + (p : Int)).toNat = 1 + p := by omega
      have q5 : (8 + (p : Int)).toNat = 8 + p := by omega
      generalize sumF (topF y) p = s at *
      generalize y (8 + p) = v at *
      clear hR
      go_wp2
      go_roundw
      case rel => exact ⟨p + 1, by omega, by go_num, by (rw [HS.out]; congr 1; omega), Lib.hid (by first | rfl | trivial)⟩
      case measure => simp [intOf]; omega
    · obtain rfl : p = 16 := by omega
      obtain ⟨sa0, sb0⟩ := sumF_range (topF y) (fun i => HV.out _) 16
      clear hR hlt hp
      go_wp2
      go_loopw [6, 8] (fun s i wr => ∃ p : Nat, p ≤ 16 ∧ i = .int .i64 p ∧ s = .int .u32 (16 + sumF (topF y) 16 + sumF (leftF y) p) ∧ Hid (wr = w)) (fun _ i _ => 16 - (intOf i).toNat)
      case atStart => exact ⟨0, by omega, rfl, by simp [sumF], Lib.hid rfl⟩
      case round =>
        obtain ⟨p, hp, rfl, rfl, hR⟩ := hrel
        obtain rfl := hR.out.symm
        by_cases hlt : p < 16
        · obtain ⟨sa, sb⟩ := sumF_range (leftF y) (fun i => HV.out _) p
          obtain ⟨va, vb⟩ := HV.out (32 * (p + 1) + 7)
          have r0 : w.cell? ⟨g, 1650 + (1 + p) * 32 + 7, none⟩ = some (.int .u8 (y (32 * (p + 1) + 7))) := by rw [show 1650 + (1 + p) * 32 + 7 = 1650 + (32 * (p + 1) + 7) by omega]; exact HY.out.1 (32 * (p + 1) + 7) (by omega)
          have HS : Hid (sumF (leftF y) (p + 1) = sumF (leftF y) p + y (32 * (p + 1) + 7)) := Lib.hid rfl
          have q6 : (0 : Int) ≤ 1 + (p : Int) := by omega
          have q7 : 1 + (p : Int) < 26 := by omega
          have q8 : (0 : Int) ≤ 8 + (p : Int) := by omega
          have q9 : 8 + (p : Int) < 32 := by omega
          have q3 : (1 + (p : Int)).toNat = 1 + p := by omega
          have q5 : (8 + (p : Int)).toNat = 8 + p := by omega
          generalize sumF (leftF y) p = s at *
          generalize y (32 * (p + 1) + 7) = v at *
          clear hR
          go_wp2
          go_roundw
          case rel => exact ⟨p + 1, by omega, by go_num, by (rw [HS.out]; congr 1; omega), Lib.hid (by first | rfl | trivial)⟩
          case measure => simp [intOf]; omega
        · obtain rfl : p = 16 := by omega
          obtain ⟨sa1, sb1⟩ := sumF_range (leftF y) (fun i => HV.out _) 16
          clear hR hlt hp
          obtain ⟨avg, havg⟩ : ∃ avg, avg = (16 + sumF (topF y) 16 + sumF (leftF y) 16) / 32 := ⟨_, rfl⟩
          have HAV := Lib.hid havg
          have v0 : 0 ≤ avg := by omega
          have v1 : avg ≤ 255 := by omega
          have va : (16 + sumF (topF y) 16 + sumF (leftF y) 16) / 32 = avg := havg.symm
          clear havg
          go_wp2
          go_loopw [10] (fun i wr => ∃ p : Nat, p ≤ 16 ∧ i = .int .i64 p ∧ Hid (Ybr wr g (blkTo y (fun _ _ => avg) (16 * p)) ∧ w.grownBy wr (some g))) (fun i _ => 16 - (intOf i).toNat)
          case atStart => exact ⟨0, by omega, rfl, Lib.hid ⟨HY.out.congr (fun i _ => (blkTo_zero _ _ i).symm), World.grownBy.refl _ _⟩⟩
          case round =>
            obtain ⟨p, hp, rfl, hR⟩ := hrel
            by_cases hlt : p < 16
            · have hbb : decide ((p : Int) < 16) = true := decide_eq_true (by omega)
              go_wp2
              go_loopw [11] (fun i wr => ∃ q : Nat, q ≤ 16 ∧ i = .int .i64 q ∧ Hid (Ybr wr g (blkTo y (fun _ _ => avg) (16 * p + q)) ∧ w.grownBy wr (some g))) (fun i _ => 16 - (intOf i).toNat)
              case atStart => exact ⟨0, by omega, rfl, hR⟩
              case round =>
                obtain ⟨q, hq, rfl, hQ⟩ := hrel
                by_cases hlq : q < 16
                · have d0 := hQ.out.1.1 (32 * (p + 1) + 8 + q) (by omega)
                  have z0 := hQ.out.1.2 (32 * (p + 1) + 8 + q) (by omega)
                  rw [← adr] at d0 z0
                  have HE : Hid (Ybr (wr.setCell ⟨g, 1650 + (1 + p) * 32 + (8 + q), none⟩ (.int .u8 avg)) g (blkTo y (fun _ _ => avg) (16 * p + (q + 1))) ∧ w.grownBy (wr.setCell ⟨g, 1650 + (1 + p) * 32 + (8 + q), none⟩ (.int .u8 avg)) (some g)) := by
                    rw [adr]
                    exact Lib.hid ⟨(hQ.out.1.set (32 * (p + 1) + 8 + q) (by omega) _).congr (fun k _ => blkTo_step y _ p q k hlt hlq), grownBy.trans hQ.out.2 (grownBy_setCell _ _ _)⟩
                  generalize blkTo y (fun _ _ => avg) (16 * p + q) (32 * (p + 1) + 8 + q) = old at d0
                  have q3 : (1 + (p : Int)).toNat = 1 + p := by omega
                  have q5 : (8 + (q : Int)).toNat = 8 + q := by omega
                  have q6 : (0 : Int) ≤ 1 + (p : Int) := by omega
                  have q7 : 1 + (p : Int) < 26 := by omega
                  have q8 : (0 : Int) ≤ 8 + (q : Int) := by omega
                  have q9 : 8 + (q : Int) < 32 := by omega
                  go_wp2
                  go_roundw
                  case rel => first | exact ⟨q + 1, by omega, by go_num, HE⟩ | ((repeat apply Exists.intro); refine ⟨?_, rfl⟩; exact ⟨q + 1, by omega, by go_num, HE⟩)
                  case measure => simp [intOf]; omega
                · obtain rfl : q = 16 := by omega
                  go_wp2
                  go_roundw
                  case rel => exact ⟨p + 1, by omega, by go_num, hQ⟩
                  case measure => simp [intOf]; omega
            · obtain rfl : p = 16 := by omega
              go_wp2
              go_end0
              have hfin := hR.out
              rw [HAV.out] at hfin
              exact ⟨rfl, hfin⟩

end Go.Proofs.YtmdijdoaijnpaaaDoor
