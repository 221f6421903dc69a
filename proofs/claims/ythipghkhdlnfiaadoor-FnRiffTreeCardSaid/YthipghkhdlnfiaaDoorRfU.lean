/- Four bytes as a number: riff's u32. -/
import Derived.Test.YthipghkhdlnfiaaDoorRfD
import Derived.Laws.BitsAllLaws
import Derived.WalkSmall
namespace Go.Proofs.YthipghkhdlnfiaaDoor
open Go.RowKit
set_option linter.unusedVariables false

theorem le32_bits (x0 x1 x2 x3 : Int) (a0 : 0 ≤ x0) (a1 : x0 ≤ 255) (b0 : 0 ≤ x1) (b1 : x1 ≤ 255) (c0 : 0 ≤ x2) (c1 : x2 ≤ 255) (d0 : 0 ≤ x3) (d1 : x3 ≤ 255) :
    bits .or .u32 (bits .or .u32 (bits .or .u32 x0 (x1 * 256)) (x2 * 65536)) (x3 * 16777216) = x0 + 256 * x1 + 65536 * x2 + 16777216 * x3 := by
  obtain ⟨p0, rfl⟩ := Int.eq_ofNat_of_zero_le a0
  obtain ⟨p1, rfl⟩ := Int.eq_ofNat_of_zero_le b0
  obtain ⟨p2, rfl⟩ := Int.eq_ofNat_of_zero_le c0
  obtain ⟨p3, rfl⟩ := Int.eq_ofNat_of_zero_le d0
  have e1 : bits .or .u32 (p0 : Int) ((p1 : Int) * 256) = ((p1 * 256 + p0 : Nat) : Int) := by
    rw [show ((p1 : Int) * 256) = ((p1 * 256 : Nat) : Int) by omega, u32_or_nat _ _ (by omega) (by omega), Nat.or_comm, nat_join 8 _ _ (by omega) (by omega)]
  have e2 : bits .or .u32 ((p1 * 256 + p0 : Nat) : Int) ((p2 : Int) * 65536) = ((p2 * 65536 + (p1 * 256 + p0) : Nat) : Int) := by
    rw [show ((p2 : Int) * 65536) = ((p2 * 65536 : Nat) : Int) by omega, u32_or_nat _ _ (by omega) (by omega), Nat.or_comm, nat_join 16 _ _ (by omega) (by omega)]
  have e3 : bits .or .u32 ((p2 * 65536 + (p1 * 256 + p0) : Nat) : Int) ((p3 : Int) * 16777216) = ((p3 * 16777216 + (p2 * 65536 + (p1 * 256 + p0)) : Nat) : Int) := by
    rw [show ((p3 : Int) * 16777216) = ((p3 * 16777216 : Nat) : Int) by omega, u32_or_nat _ _ (by omega) (by omega), Nat.or_comm, nat_join 24 _ _ (by omega) (by omega)]
  rw [e1, e2, e3]
  omega

set_option maxRecDepth 100000 in
set_option maxHeartbeats 1000000 in
theorem u32_any (pb po n c : Nat) (x0 x1 x2 x3 : Int) (w : World) (h0 : w.cell? ⟨pb, po, none⟩ = some (.int .u8 x0)) (h1 : w.cell? ⟨pb, po + 1, none⟩ = some (.int .u8 x1)) (h2 : w.cell? ⟨pb, po + 2, none⟩ = some (.int .u8 x2)) (h3 : w.cell? ⟨pb, po + 3, none⟩ = some (.int .u8 x3)) (hn : 4 ≤ n) (hm : n ≤ 1000)
    (a0 : 0 ≤ x0) (a1 : x0 ≤ 255) (b0 : 0 ≤ x1) (b1 : x1 ≤ 255) (c0 : 0 ≤ x2) (c1 : x2 ≤ 255) (d0 : 0 ≤ x3) (d1 : x3 ≤ 255) :
    Calls Tryd.prog 31 #[.slice (some ⟨pb, po, none⟩) n c] w fun e w' => e = .returned (.int .u32 (x0 + 256 * x1 + 65536 * x2 + 16777216 * x3)) ∧ ∃ d, w' = w.drewN d := by
  go_enter Tryd.func31, Tryd.ntmps31
  go_wp2
  go_quiet (fail)
  go_wp2
  go_ret
  rw [← le32_bits x0 x1 x2 x3 a0 a1 b0 b1 c0 c1 d0 d1]
  exact ⟨rfl, _, rfl⟩
end Go.Proofs.YthipghkhdlnfiaaDoor
