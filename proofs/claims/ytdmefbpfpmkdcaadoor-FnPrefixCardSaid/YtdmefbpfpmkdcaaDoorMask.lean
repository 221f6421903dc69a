/- The lowest bits of numbers. -/
import Derived.Test.YtdmefbpfpmkdcaaDoorBits
import Derived.Test.YtdmefbpfpmkdcaaDoorStream
import Derived.IntWalk
namespace Go.Proofs.YtdmefbpfpmkdcaaDoor
open Go.RowKit

/-- The number that is written: the lowest bits. -/
def lowF (l sz : Nat → Int) (i : Nat) : Int := l i % ((2 ^ natF sz i : Nat) : Int)
theorem mask_val (y : Int) (k : Nat) (hk : k ≤ 24) : bits .and .i64 y (wrap64 (wrap64 (2 ^ k) - 1)) = y % ((2 ^ k : Nat) : Int) := by
  have hp : (2 : Nat) ^ k ≤ 2 ^ 24 := Nat.pow_le_pow_right (by decide) hk
  have h0 : 0 < (2 : Nat) ^ k := Nat.pow_pos (by decide)
  have e : (2 : Int) ^ k = ((2 ^ k : Nat) : Int) := by simp
  rw [e, IntWalk.wrap64_in ((2 ^ k : Nat) : Int) (by omega), IntWalk.wrap64_in _ (by omega), ← i64_mask y k (by omega), Int.ofNat_sub h0]
  rfl
theorem lowF_bd (l sz : Nat → Int) (i : Nat) : 0 ≤ lowF l sz i ∧ lowF l sz i < ((2 ^ natF sz i : Nat) : Int) := by
  have : 0 < 2 ^ natF sz i := Nat.pow_pos (by decide)
  exact ⟨Int.emod_nonneg _ (by omega), Int.emod_lt_of_pos _ (by omega)⟩
end Go.Proofs.YtdmefbpfpmkdcaaDoor
