/- The package's small prediction VR. Printed by wip/gen_pred4.py. -/
import Derived.Test.YtmdijdoaijnpaaaDoorBlk4
namespace Go.Proofs.YtmdijdoaijnpaaaDoor
open Go.RowKit
set_option linter.unusedVariables false

set_option maxRecDepth 100000 in
set_option maxHeartbeats 3000000 in
theorem p4VR (g : Nat) (y : Nat → Int) (w : World) (hY : Ybr w g y) (hv : ∀ k, 0 ≤ y k ∧ y k ≤ 255) :
    Calls Tryd.prog 74 #[.pointer (some ⟨g, 0, none⟩), .int .i64 1, .int .i64 8] w fun e w' => e = .returned (.tuple #[]) ∧ Ybr w' g (blk4 y (rVR (edgeF y)) 16) ∧ w.grownBy w' (some g) := by
  have HY := Lib.hid hY
  have HV := Lib.hid hv
  clear hY hv
  have k1 : w.cell? ⟨g, 1753, none⟩ = some (.int .u8 (edgeF y 1)) := HY.out.1 103 (by decide)
  obtain ⟨l1, u1⟩ := HV.out 103
  rw [show y 103 = edgeF y 1 from rfl] at l1 u1
  obtain ⟨e1, he1⟩ : ∃ e, e = edgeF y 1 := ⟨_, rfl⟩
  rw [← he1] at k1 l1 u1
  have k2 : w.cell? ⟨g, 1721, none⟩ = some (.int .u8 (edgeF y 2)) := HY.out.1 71 (by decide)
  obtain ⟨l2, u2⟩ := HV.out 71
  rw [show y 71 = edgeF y 2 from rfl] at l2 u2
  obtain ⟨e2, he2⟩ : ∃ e, e = edgeF y 2 := ⟨_, rfl⟩
  rw [← he2] at k2 l2 u2
  have k3 : w.cell? ⟨g, 1689, none⟩ = some (.int .u8 (edgeF y 3)) := HY.out.1 39 (by decide)
  obtain ⟨l3, u3⟩ := HV.out 39
  rw [show y 39 = edgeF y 3 from rfl] at l3 u3
  obtain ⟨e3, he3⟩ : ∃ e, e = edgeF y 3 := ⟨_, rfl⟩
  rw [← he3] at k3 l3 u3
  have k4 : w.cell? ⟨g, 1657, none⟩ = some (.int .u8 (edgeF y 4)) := HY.out.1 7 (by decide)
  obtain ⟨l4, u4⟩ := HV.out 7
  rw [show y 7 = edgeF y 4 from rfl] at l4 u4
  obtain ⟨e4, he4⟩ : ∃ e, e = edgeF y 4 := ⟨_, rfl⟩
  rw [← he4] at k4 l4 u4
  have k5 : w.cell? ⟨g, 1658, none⟩ = some (.int .u8 (edgeF y 5)) := HY.out.1 8 (by decide)
  obtain ⟨l5, u5⟩ := HV.out 8
  rw [show y 8 = edgeF y 5 from rfl] at l5 u5
  obtain ⟨e5, he5⟩ : ∃ e, e = edgeF y 5 := ⟨_, rfl⟩
  rw [← he5] at k5 l5 u5
  have k6 : w.cell? ⟨g, 1659, none⟩ = some (.int .u8 (edgeF y 6)) := HY.out.1 9 (by decide)
  obtain ⟨l6, u6⟩ := HV.out 9
  rw [show y 9 = edgeF y 6 from rfl] at l6 u6
  obtain ⟨e6, he6⟩ : ∃ e, e = edgeF y 6 := ⟨_, rfl⟩
  rw [← he6] at k6 l6 u6
  have k7 : w.cell? ⟨g, 1660, none⟩ = some (.int .u8 (edgeF y 7)) := HY.out.1 10 (by decide)
  obtain ⟨l7, u7⟩ := HV.out 10
  rw [show y 10 = edgeF y 7 from rfl] at l7 u7
  obtain ⟨e7, he7⟩ : ∃ e, e = edgeF y 7 := ⟨_, rfl⟩
  rw [← he7] at k7 l7 u7
  have k8 : w.cell? ⟨g, 1661, none⟩ = some (.int .u8 (edgeF y 8)) := HY.out.1 11 (by decide)
  obtain ⟨l8, u8⟩ := HV.out 11
  rw [show y 11 = edgeF y 8 from rfl] at l8 u8
  obtain ⟨e8, he8⟩ : ∃ e, e = edgeF y 8 := ⟨_, rfl⟩
  rw [← he8] at k8 l8 u8
  have HE := Lib.hid ((And.intro he1 (And.intro he2 (And.intro he3 (And.intro he4 (And.intro he5 (And.intro he6 (And.intro he7 he8))))))))
  clear he1 he2 he3 he4 he5 he6 he7 he8
  have d0 : w.cell? ⟨g, 1690, none⟩ = some (.int .u8 (y 40)) := HY.out.1 40 (by decide)
  have z0 : w.frozen? ⟨g, 1690, none⟩ = false := HY.out.2 40 (by decide)
  generalize y 40 = o0 at d0
  have d1 : w.cell? ⟨g, 1691, none⟩ = some (.int .u8 (y 41)) := HY.out.1 41 (by decide)
  have z1 : w.frozen? ⟨g, 1691, none⟩ = false := HY.out.2 41 (by decide)
  generalize y 41 = o1 at d1
  have d2 : w.cell? ⟨g, 1692, none⟩ = some (.int .u8 (y 42)) := HY.out.1 42 (by decide)
  have z2 : w.frozen? ⟨g, 1692, none⟩ = false := HY.out.2 42 (by decide)
  generalize y 42 = o2 at d2
  have d3 : w.cell? ⟨g, 1693, none⟩ = some (.int .u8 (y 43)) := HY.out.1 43 (by decide)
  have z3 : w.frozen? ⟨g, 1693, none⟩ = false := HY.out.2 43 (by decide)
  generalize y 43 = o3 at d3
  have d4 : w.cell? ⟨g, 1722, none⟩ = some (.int .u8 (y 72)) := HY.out.1 72 (by decide)
  have z4 : w.frozen? ⟨g, 1722, none⟩ = false := HY.out.2 72 (by decide)
  generalize y 72 = o4 at d4
  have d5 : w.cell? ⟨g, 1723, none⟩ = some (.int .u8 (y 73)) := HY.out.1 73 (by decide)
  have z5 : w.frozen? ⟨g, 1723, none⟩ = false := HY.out.2 73 (by decide)
  generalize y 73 = o5 at d5
  have d6 : w.cell? ⟨g, 1724, none⟩ = some (.int .u8 (y 74)) := HY.out.1 74 (by decide)
  have z6 : w.frozen? ⟨g, 1724, none⟩ = false := HY.out.2 74 (by decide)
  generalize y 74 = o6 at d6
  have d7 : w.cell? ⟨g, 1725, none⟩ = some (.int .u8 (y 75)) := HY.out.1 75 (by decide)
  have z7 : w.frozen? ⟨g, 1725, none⟩ = false := HY.out.2 75 (by decide)
  generalize y 75 = o7 at d7
  have d8 : w.cell? ⟨g, 1754, none⟩ = some (.int .u8 (y 104)) := HY.out.1 104 (by decide)
  have z8 : w.frozen? ⟨g, 1754, none⟩ = false := HY.out.2 104 (by decide)
  generalize y 104 = o8 at d8
  have d9 : w.cell? ⟨g, 1755, none⟩ = some (.int .u8 (y 105)) := HY.out.1 105 (by decide)
  have z9 : w.frozen? ⟨g, 1755, none⟩ = false := HY.out.2 105 (by decide)
  generalize y 105 = o9 at d9
  have d10 : w.cell? ⟨g, 1756, none⟩ = some (.int .u8 (y 106)) := HY.out.1 106 (by decide)
  have z10 : w.frozen? ⟨g, 1756, none⟩ = false := HY.out.2 106 (by decide)
  generalize y 106 = o10 at d10
  have d11 : w.cell? ⟨g, 1757, none⟩ = some (.int .u8 (y 107)) := HY.out.1 107 (by decide)
  have z11 : w.frozen? ⟨g, 1757, none⟩ = false := HY.out.2 107 (by decide)
  generalize y 107 = o11 at d11
  have d12 : w.cell? ⟨g, 1786, none⟩ = some (.int .u8 (y 136)) := HY.out.1 136 (by decide)
  have z12 : w.frozen? ⟨g, 1786, none⟩ = false := HY.out.2 136 (by decide)
  generalize y 136 = o12 at d12
  have d13 : w.cell? ⟨g, 1787, none⟩ = some (.int .u8 (y 137)) := HY.out.1 137 (by decide)
  have z13 : w.frozen? ⟨g, 1787, none⟩ = false := HY.out.2 137 (by decide)
  generalize y 137 = o13 at d13
  have d14 : w.cell? ⟨g, 1788, none⟩ = some (.int .u8 (y 138)) := HY.out.1 138 (by decide)
  have z14 : w.frozen? ⟨g, 1788, none⟩ = false := HY.out.2 138 (by decide)
  generalize y 138 = o14 at d14
  have d15 : w.cell? ⟨g, 1789, none⟩ = some (.int .u8 (y 139)) := HY.out.1 139 (by decide)
  have z15 : w.frozen? ⟨g, 1789, none⟩ = false := HY.out.2 139 (by decide)
  generalize y 139 = o15 at d15
  go_enter Tryd.func74, Tryd.ntmps74
  go_wp2
  go_end0
  obtain ⟨rfl, rfl, rfl, rfl, rfl, rfl, rfl, rfl⟩ := HE.out
  refine ⟨rfl, ?_⟩
  change B4 _ _ _ _ _ 16
  refine (B4.step 3 3 16 _ (B4.step 3 2 15 _ (B4.step 3 1 14 _ (B4.step 3 0 13 _ (B4.step 2 3 12 _ (B4.step 2 2 11 _ (B4.step 2 1 10 _ (B4.step 2 0 9 _ (B4.step 1 3 8 _ (B4.step 1 2 7 _ (B4.step 1 1 6 _ (B4.step 1 0 5 _ (B4.step 0 3 4 _ (B4.step 0 2 3 _ (B4.step 0 1 2 _ (B4.step 0 0 1 _ (B4.zero _ HY.out) (by decide) (by decide) (by decide) rfl rfl ?_) (by decide) (by decide) (by decide) rfl rfl ?_) (by decide) (by decide) (by decide) rfl rfl ?_) (by decide) (by decide) (by decide) rfl rfl ?_) (by decide) (by decide) (by decide) rfl rfl ?_) (by decide) (by decide) (by decide) rfl rfl ?_) (by decide) (by decide) (by decide) rfl rfl ?_) (by decide) (by decide) (by decide) rfl rfl ?_) (by decide) (by decide) (by decide) rfl rfl ?_) (by decide) (by decide) (by decide) rfl rfl ?_) (by decide) (by decide) (by decide) rfl rfl ?_) (by decide) (by decide) (by decide) rfl rfl ?_) (by decide) (by decide) (by decide) rfl rfl ?_) (by decide) (by decide) (by decide) rfl rfl ?_) (by decide) (by decide) (by decide) rfl rfl ?_) (by decide) (by decide) (by decide) rfl rfl ?_)
  all_goals (generalize edgeF y = E; unfold rVR; simp [tw, th]; try omega)
end Go.Proofs.YtmdijdoaijnpaaaDoor
