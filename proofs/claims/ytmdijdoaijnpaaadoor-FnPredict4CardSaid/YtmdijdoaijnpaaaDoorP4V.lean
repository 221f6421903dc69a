/- The package's small predictions VE and HE. Printed by wip/gen_pred4.py. -/
import Derived.Test.YtmdijdoaijnpaaaDoorBlk4
namespace Go.Proofs.YtmdijdoaijnpaaaDoor
open Go.RowKit
set_option linter.unusedVariables false

set_option maxRecDepth 100000 in
set_option maxHeartbeats 3000000 in
theorem p4VE (g : Nat) (y : Nat → Int) (w : World) (hY : Ybr w g y) (hv : ∀ k, 0 ≤ y k ∧ y k ≤ 255) :
    Calls Tryd.prog 71 #[.pointer (some ⟨g, 0, none⟩), .int .i64 1, .int .i64 8] w fun e w' => e = .returned (.tuple #[]) ∧ Ybr w' g (blk4 y (rVE (edgeF y)) 16) ∧ w.grownBy w' (some g) := by
  have HY := Lib.hid hY
  have HV := Lib.hid hv
  clear hY hv
  have k4 : w.cell? ⟨g, 1657, none⟩ = some (.int .u8 (edgeF y 4)) := HY.out.1 7 (by decide)
  obtain ⟨l4, u4⟩ := HV.out 7
  rw [show y 7 = edgeF y 4 from rfl] at l4 u4
  obtain ⟨e4, he4⟩ : ∃ e, e = edgeF y 4 := ⟨_, rfl⟩
  rw [← he4] at k4 l4 u4
  have k5 : w.cell? ⟨g, 1658, none⟩ = some (.int .u8 (edgeF y 5)) := HY.out.1 8 (by decide)
  obtain ⟨l5, u5⟩ := HV.out 8
  rw [show y 8 = edgeF y 5 from rfl] at l5 u5
  obtain ⟨e5, he5⟩ : ∃ e, e = edgeF y 5 := ⟨_, rfl⟩
  rw [← he5] at k5 l5 u5
  have k6 : w.cell? ⟨g, 1659, none⟩ = some (.int .u8 (edgeF y 6)) := HY.out.1 9 (by decide)
  obtain ⟨l6, u6⟩ := HV.out 9
  rw [show y 9 = edgeF y 6 from rfl] at l6 u6
  obtain ⟨e6, he6⟩ : ∃ e, e = edgeF y 6 := ⟨_, rfl⟩
  rw [← he6] at k6 l6 u6
  have k7 : w.cell? ⟨g, 1660, none⟩ = some (.int .u8 (edgeF y 7)) := HY.out.1 10 (by decide)
  obtain ⟨l7, u7⟩ := HV.out 10
  rw [show y 10 = edgeF y 7 from rfl] at l7 u7
  obtain ⟨e7, he7⟩ : ∃ e, e = edgeF y 7 := ⟨_, rfl⟩
  rw [← he7] at k7 l7 u7
  have k8 : w.cell? ⟨g, 1661, none⟩ = some (.int .u8 (edgeF y 8)) := HY.out.1 11 (by decide)
  obtain ⟨l8, u8⟩ := HV.out 11
  rw [show y 11 = edgeF y 8 from rfl] at l8 u8
  obtain ⟨e8, he8⟩ : ∃ e, e = edgeF y 8 := ⟨_, rfl⟩
  rw [← he8] at k8 l8 u8
  have k9 : w.cell? ⟨g, 1662, none⟩ = some (.int .u8 (edgeF y 9)) := HY.out.1 12 (by decide)
  obtain ⟨l9, u9⟩ := HV.out 12
  rw [show y 12 = edgeF y 9 from rfl] at l9 u9
  obtain ⟨e9, he9⟩ : ∃ e, e = edgeF y 9 := ⟨_, rfl⟩
  rw [← he9] at k9 l9 u9
  have HE := Lib.hid ((And.intro he4 (And.intro he5 (And.intro he6 (And.intro he7 (And.intro he8 he9))))))
  clear he4 he5 he6 he7 he8 he9
  have HR0 : Hid (th (edgeF y) 5 = (e4 + 2 * e5 + e6 + 2) / 4) := Lib.hid (by obtain ⟨rfl, rfl, rfl, rfl, rfl, rfl⟩ := HE.out; rfl)
  have HR1 : Hid (th (edgeF y) 6 = (e5 + 2 * e6 + e7 + 2) / 4) := Lib.hid (by obtain ⟨rfl, rfl, rfl, rfl, rfl, rfl⟩ := HE.out; rfl)
  have HR2 : Hid (th (edgeF y) 7 = (e6 + 2 * e7 + e8 + 2) / 4) := Lib.hid (by obtain ⟨rfl, rfl, rfl, rfl, rfl, rfl⟩ := HE.out; rfl)
  have HR3 : Hid (th (edgeF y) 8 = (e7 + 2 * e8 + e9 + 2) / 4) := Lib.hid (by obtain ⟨rfl, rfl, rfl, rfl, rfl, rfl⟩ := HE.out; rfl)
  go_enter Tryd.func71, Tryd.ntmps71
  go_wp2
  obtain ⟨r0, hr0⟩ : ∃ r, r = (e4 + 2 * e5 + e6 + 2) / 4 := ⟨_, rfl⟩
  have b0 : 0 ≤ r0 ∧ r0 ≤ 255 := by omega
  rw [← hr0]
  rw [← hr0] at HR0
  obtain ⟨r1, hr1⟩ : ∃ r, r = (e5 + 2 * e6 + e7 + 2) / 4 := ⟨_, rfl⟩
  have b1 : 0 ≤ r1 ∧ r1 ≤ 255 := by omega
  rw [← hr1]
  rw [← hr1] at HR1
  obtain ⟨r2, hr2⟩ : ∃ r, r = (e6 + 2 * e7 + e8 + 2) / 4 := ⟨_, rfl⟩
  have b2 : 0 ≤ r2 ∧ r2 ≤ 255 := by omega
  rw [← hr2]
  rw [← hr2] at HR2
  obtain ⟨r3, hr3⟩ : ∃ r, r = (e7 + 2 * e8 + e9 + 2) / 4 := ⟨_, rfl⟩
  have b3 : 0 ≤ r3 ∧ r3 ≤ 255 := by omega
  rw [← hr3]
  rw [← hr3] at HR3
  clear hr0 hr1 hr2 hr3 k4 l4 u4 k5 l5 u5 k6 l6 u6 k7 l7 u7 k8 l8 u8 k9 l9 u9
  go_loopw [16] (fun i wr => ∃ p : Nat, p ≤ 4 ∧ i = .int .i64 p ∧ Hid (B4 w wr g y (rVE (edgeF y)) (4 * p))) (fun i _ => 4 - (intOf i).toNat)
  case atStart => exact ⟨0, by omega, rfl, Lib.hid (B4.zero _ HY.out)⟩
  case round =>
    obtain ⟨p, hp, rfl, hR⟩ := hrel
    by_cases hlt : p < 4
    · have q3 : (1 + (p : Int)).toNat = 1 + p := by omega
      have q6 : (0 : Int) ≤ 1 + (p : Int) := by omega
      have q7 : 1 + (p : Int) < 26 := by omega
      have d0 : wr.cell? ⟨g, 1650 + (1 + p) * 32 + 8, none⟩ = some (.int .u8 (blk4 y (rVE (edgeF y)) (4 * p) (32 * (p + 1) + 8))) := by rw [show 1650 + (1 + p) * 32 + 8 = 1650 + (32 * (p + 1) + 8) by omega]; exact hR.out.1.1 (32 * (p + 1) + 8) (by omega)
      have z0 : wr.frozen? ⟨g, 1650 + (1 + p) * 32 + 8, none⟩ = false := by rw [show 1650 + (1 + p) * 32 + 8 = 1650 + (32 * (p + 1) + 8) by omega]; exact hR.out.1.2 (32 * (p + 1) + 8) (by omega)
      generalize blk4 _ _ _ _ = o0 at d0
      have d1 : wr.cell? ⟨g, 1650 + (1 + p) * 32 + 9, none⟩ = some (.int .u8 (blk4 y (rVE (edgeF y)) (4 * p) (32 * (p + 1) + 9))) := by rw [show 1650 + (1 + p) * 32 + 9 = 1650 + (32 * (p + 1) + 9) by omega]; exact hR.out.1.1 (32 * (p + 1) + 9) (by omega)
      have z1 : wr.frozen? ⟨g, 1650 + (1 + p) * 32 + 9, none⟩ = false := by rw [show 1650 + (1 + p) * 32 + 9 = 1650 + (32 * (p + 1) + 9) by omega]; exact hR.out.1.2 (32 * (p + 1) + 9) (by omega)
      generalize blk4 _ _ _ _ = o1 at d1
      have d2 : wr.cell? ⟨g, 1650 + (1 + p) * 32 + 10, none⟩ = some (.int .u8 (blk4 y (rVE (edgeF y)) (4 * p) (32 * (p + 1) + 10))) := by rw [show 1650 + (1 + p) * 32 + 10 = 1650 + (32 * (p + 1) + 10) by omega]; exact hR.out.1.1 (32 * (p + 1) + 10) (by omega)
      have z2 : wr.frozen? ⟨g, 1650 + (1 + p) * 32 + 10, none⟩ = false := by rw [show 1650 + (1 + p) * 32 + 10 = 1650 + (32 * (p + 1) + 10) by omega]; exact hR.out.1.2 (32 * (p + 1) + 10) (by omega)
      generalize blk4 _ _ _ _ = o2 at d2
      have d3 : wr.cell? ⟨g, 1650 + (1 + p) * 32 + 11, none⟩ = some (.int .u8 (blk4 y (rVE (edgeF y)) (4 * p) (32 * (p + 1) + 11))) := by rw [show 1650 + (1 + p) * 32 + 11 = 1650 + (32 * (p + 1) + 11) by omega]; exact hR.out.1.1 (32 * (p + 1) + 11) (by omega)
      have z3 : wr.frozen? ⟨g, 1650 + (1 + p) * 32 + 11, none⟩ = false := by rw [show 1650 + (1 + p) * 32 + 11 = 1650 + (32 * (p + 1) + 11) by omega]; exact hR.out.1.2 (32 * (p + 1) + 11) (by omega)
      generalize blk4 _ _ _ _ = o3 at d3
      have HN : Hid (B4 w (World.setCell (World.setCell (World.setCell (World.setCell wr ⟨g, 1650 + (1 + p) * 32 + 8, none⟩ (.int .u8 r0)) ⟨g, 1650 + (1 + p) * 32 + 9, none⟩ (.int .u8 r1)) ⟨g, 1650 + (1 + p) * 32 + 10, none⟩ (.int .u8 r2)) ⟨g, 1650 + (1 + p) * 32 + 11, none⟩ (.int .u8 r3)) g y (rVE (edgeF y)) (4 * p + 4)) := Lib.hid (B4.step p 3 (4 * p + 4) (1650 + (1 + p) * 32 + 11) (B4.step p 2 (4 * p + 3) (1650 + (1 + p) * 32 + 10) (B4.step p 1 (4 * p + 2) (1650 + (1 + p) * 32 + 9) (B4.step p 0 (4 * p + 1) (1650 + (1 + p) * 32 + 8) hR.out hlt (by decide) (by omega) (by omega) (by omega) HR0.out.symm) hlt (by decide) (by omega) (by omega) (by omega) HR1.out.symm) hlt (by decide) (by omega) (by omega) (by omega) HR2.out.symm) hlt (by decide) (by omega) (by omega) (by omega) HR3.out.symm)
      go_wp2
      go_roundw
      case rel => exact ⟨p + 1, by omega, by go_num, HN⟩
      case measure => simp [intOf]; omega
    · obtain rfl : p = 4 := by omega
      go_wp2
      go_end0
      exact ⟨rfl, hR.out⟩

set_option maxRecDepth 100000 in
set_option maxHeartbeats 3000000 in
theorem p4HE (g : Nat) (y : Nat → Int) (w : World) (hY : Ybr w g y) (hv : ∀ k, 0 ≤ y k ∧ y k ≤ 255) :
    Calls Tryd.prog 72 #[.pointer (some ⟨g, 0, none⟩), .int .i64 1, .int .i64 8] w fun e w' => e = .returned (.tuple #[]) ∧ Ybr w' g (blk4 y (rHE (edgeF y)) 16) ∧ w.grownBy w' (some g) := by
  have HY := Lib.hid hY
  have HV := Lib.hid hv
  clear hY hv
  have k0 : w.cell? ⟨g, 1785, none⟩ = some (.int .u8 (edgeF y 0)) := HY.out.1 135 (by decide)
  obtain ⟨l0, u0⟩ := HV.out 135
  rw [show y 135 = edgeF y 0 from rfl] at l0 u0
  obtain ⟨e0, he0⟩ : ∃ e, e = edgeF y 0 := ⟨_, rfl⟩
  rw [← he0] at k0 l0 u0
  have k1 : w.cell? ⟨g, 1753, none⟩ = some (.int .u8 (edgeF y 1)) := HY.out.1 103 (by decide)
  obtain ⟨l1, u1⟩ := HV.out 103
  rw [show y 103 = edgeF y 1 from rfl] at l1 u1
  obtain ⟨e1, he1⟩ : ∃ e, e = edgeF y 1 := ⟨_, rfl⟩
  rw [← he1] at k1 l1 u1
  have k2 : w.cell? ⟨g, 1721, none⟩ = some (.int .u8 (edgeF y 2)) := HY.out.1 71 (by decide)
  obtain ⟨l2, u2⟩ := HV.out 71
  rw [show y 71 = edgeF y 2 from rfl] at l2 u2
  obtain ⟨e2, he2⟩ : ∃ e, e = edgeF y 2 := ⟨_, rfl⟩
  rw [← he2] at k2 l2 u2
  have k3 : w.cell? ⟨g, 1689, none⟩ = some (.int .u8 (edgeF y 3)) := HY.out.1 39 (by decide)
  obtain ⟨l3, u3⟩ := HV.out 39
  rw [show y 39 = edgeF y 3 from rfl] at l3 u3
  obtain ⟨e3, he3⟩ : ∃ e, e = edgeF y 3 := ⟨_, rfl⟩
  rw [← he3] at k3 l3 u3
  have k4 : w.cell? ⟨g, 1657, none⟩ = some (.int .u8 (edgeF y 4)) := HY.out.1 7 (by decide)
  obtain ⟨l4, u4⟩ := HV.out 7
  rw [show y 7 = edgeF y 4 from rfl] at l4 u4
  obtain ⟨e4, he4⟩ : ∃ e, e = edgeF y 4 := ⟨_, rfl⟩
  rw [← he4] at k4 l4 u4
  have HE := Lib.hid ((And.intro he0 (And.intro he1 (And.intro he2 (And.intro he3 he4)))))
  clear he0 he1 he2 he3 he4
  have HR0 : Hid ((e4 + 2 * e3 + e2 + 2) / 4 = rHE (edgeF y) 0 0) := Lib.hid (by obtain ⟨rfl, rfl, rfl, rfl, rfl⟩ := HE.out; unfold rHE; simp [th]; try omega)
  have HR1 : Hid ((e1 + 2 * e2 + e3 + 2) / 4 = rHE (edgeF y) 1 0) := Lib.hid (by obtain ⟨rfl, rfl, rfl, rfl, rfl⟩ := HE.out; unfold rHE; simp [th]; try omega)
  have HR2 : Hid ((e0 + 2 * e1 + e2 + 2) / 4 = rHE (edgeF y) 2 0) := Lib.hid (by obtain ⟨rfl, rfl, rfl, rfl, rfl⟩ := HE.out; unfold rHE; simp [th]; try omega)
  have HR3 : Hid ((e0 + 2 * e0 + e1 + 2) / 4 = rHE (edgeF y) 3 0) := Lib.hid (by obtain ⟨rfl, rfl, rfl, rfl, rfl⟩ := HE.out; unfold rHE; simp; try omega)
  go_enter Tryd.func72, Tryd.ntmps72
  go_wp2
  obtain ⟨r0, hr0⟩ : ∃ r, r = (e4 + 2 * e3 + e2 + 2) / 4 := ⟨_, rfl⟩
  have b0 : 0 ≤ r0 ∧ r0 ≤ 255 := by omega
  rw [← hr0]
  rw [← hr0] at HR0
  obtain ⟨r1, hr1⟩ : ∃ r, r = (e1 + 2 * e2 + e3 + 2) / 4 := ⟨_, rfl⟩
  have b1 : 0 ≤ r1 ∧ r1 ≤ 255 := by omega
  rw [← hr1]
  rw [← hr1] at HR1
  obtain ⟨r2, hr2⟩ : ∃ r, r = (e0 + 2 * e1 + e2 + 2) / 4 := ⟨_, rfl⟩
  have b2 : 0 ≤ r2 ∧ r2 ≤ 255 := by omega
  rw [← hr2]
  rw [← hr2] at HR2
  obtain ⟨r3, hr3⟩ : ∃ r, r = (e0 + 2 * e0 + e1 + 2) / 4 := ⟨_, rfl⟩
  have b3 : 0 ≤ r3 ∧ r3 ≤ 255 := by omega
  rw [← hr3]
  rw [← hr3] at HR3
  clear hr0 hr1 hr2 hr3 k0 l0 u0 k1 l1 u1 k2 l2 u2 k3 l3 u3 k4 l4 u4
  go_loopw [15] (fun i wr => ∃ p : Nat, p ≤ 4 ∧ i = .int .i64 p ∧ Hid (C4 w wr g y (rHE (edgeF y)) (4 * p))) (fun i _ => 4 - (intOf i).toNat)
  case atStart => exact ⟨0, by omega, rfl, Lib.hid ⟨HY.out.congr (fun i _ => (colF_zero _ _ i).symm), World.grownBy.refl _ _⟩⟩
  case round =>
    obtain ⟨p, hp, rfl, hR⟩ := hrel
    by_cases hlt : p < 4
    · have q5 : (8 + (p : Int)).toNat = 8 + p := by omega
      have q8 : (0 : Int) ≤ 8 + (p : Int) := by omega
      have q9 : 8 + (p : Int) < 32 := by omega
      have d0 : wr.cell? ⟨g, 1682 + (8 + p), none⟩ = some (.int .u8 (colF y (rHE (edgeF y)) (4 * p) (32 + 8 + p))) := by rw [show 1682 + (8 + p) = 1650 + (32 + 8 + p) by omega]; exact hR.out.1.1 (32 + 8 + p) (by omega)
      have z0 : wr.frozen? ⟨g, 1682 + (8 + p), none⟩ = false := by rw [show 1682 + (8 + p) = 1650 + (32 + 8 + p) by omega]; exact hR.out.1.2 (32 + 8 + p) (by omega)
      generalize colF _ _ _ _ = o0 at d0
      have d1 : wr.cell? ⟨g, 1714 + (8 + p), none⟩ = some (.int .u8 (colF y (rHE (edgeF y)) (4 * p) (64 + 8 + p))) := by rw [show 1714 + (8 + p) = 1650 + (64 + 8 + p) by omega]; exact hR.out.1.1 (64 + 8 + p) (by omega)
      have z1 : wr.frozen? ⟨g, 1714 + (8 + p), none⟩ = false := by rw [show 1714 + (8 + p) = 1650 + (64 + 8 + p) by omega]; exact hR.out.1.2 (64 + 8 + p) (by omega)
      generalize colF _ _ _ _ = o1 at d1
      have d2 : wr.cell? ⟨g, 1746 + (8 + p), none⟩ = some (.int .u8 (colF y (rHE (edgeF y)) (4 * p) (96 + 8 + p))) := by rw [show 1746 + (8 + p) = 1650 + (96 + 8 + p) by omega]; exact hR.out.1.1 (96 + 8 + p) (by omega)
      have z2 : wr.frozen? ⟨g, 1746 + (8 + p), none⟩ = false := by rw [show 1746 + (8 + p) = 1650 + (96 + 8 + p) by omega]; exact hR.out.1.2 (96 + 8 + p) (by omega)
      generalize colF _ _ _ _ = o2 at d2
      have d3 : wr.cell? ⟨g, 1778 + (8 + p), none⟩ = some (.int .u8 (colF y (rHE (edgeF y)) (4 * p) (128 + 8 + p))) := by rw [show 1778 + (8 + p) = 1650 + (128 + 8 + p) by omega]; exact hR.out.1.1 (128 + 8 + p) (by omega)
      have z3 : wr.frozen? ⟨g, 1778 + (8 + p), none⟩ = false := by rw [show 1778 + (8 + p) = 1650 + (128 + 8 + p) by omega]; exact hR.out.1.2 (128 + 8 + p) (by omega)
      generalize colF _ _ _ _ = o3 at d3
      have HN : Hid (C4 w (World.setCell (World.setCell (World.setCell (World.setCell wr ⟨g, 1682 + (8 + p), none⟩ (.int .u8 r0)) ⟨g, 1714 + (8 + p), none⟩ (.int .u8 r1)) ⟨g, 1746 + (8 + p), none⟩ (.int .u8 r2)) ⟨g, 1778 + (8 + p), none⟩ (.int .u8 r3)) g y (rHE (edgeF y)) (4 * p + 4)) := Lib.hid (C4.step 3 p (4 * p + 4) (1778 + (8 + p)) (C4.step 2 p (4 * p + 3) (1746 + (8 + p)) (C4.step 1 p (4 * p + 2) (1714 + (8 + p)) (C4.step 0 p (4 * p + 1) (1682 + (8 + p)) hR.out (by decide) hlt (by omega) (by omega) (by omega) HR0.out) (by decide) hlt (by omega) (by omega) (by omega) HR1.out) (by decide) hlt (by omega) (by omega) (by omega) HR2.out) (by decide) hlt (by omega) (by omega) (by omega) HR3.out)
      go_wp2
      go_roundw
      case rel => exact ⟨p + 1, by omega, by go_num, HN⟩
      case measure => simp [intOf]; omega
    · obtain rfl : p = 4 := by omega
      go_wp2
      go_end0
      exact ⟨rfl, hR.out.1.congr (fun i _ => colF_all _ _ i), hR.out.2⟩
end Go.Proofs.YtmdijdoaijnpaaaDoor
