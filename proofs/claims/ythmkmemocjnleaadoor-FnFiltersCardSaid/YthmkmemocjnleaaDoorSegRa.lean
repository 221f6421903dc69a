/- The reference's head of segments: readSegments: words. Printed by wip/gen_segr.py. -/
import Derived.Test.YthmkmemocjnleaaDoorSegD
import Derived.Deep.RegionWith
import Derived.Deep.QuietTactic
namespace Go.Proofs.YthmkmemocjnleaaDoor
open Go.RowKit
set_option linter.unusedVariables false

/-- What stands behind the reference's reading. -/
def SWe (w0 : World) (B : Nat) (z : Nat → Option Value) (v : SG × SS) (w : World) (gd g : Nat) (ao : Option Addr) (n c : Nat) (zs : List Int) : Prop :=
  ∃ odd keeps, SW w0 B (sgD z g v.1.u v.1.m v.1.a v.1.q v.1.l v.1.p odd keeps v.1.t) w gd g ao n c zs v.2
theorem opt_bd' {σ : Type} (step : σ → Int → Bool × σ) (k : Nat) (hk : k ≤ 7) (s : σ) : -127 ≤ (optG step 128 k s).1 ∧ (optG step 128 k s).1 ≤ 127 := by
  have hb := bitsG_range step 128 k 0 (step s 128).2
  have hp : (2 : Int) ^ k ≤ 128 := by
    have := Int.ofNat_le.2 (Nat.pow_le_pow_right (n := 2) (by omega) hk)
    simpa using this
  simp only [Int.zero_mul, Int.zero_add, Int.one_mul] at hb
  unfold optG signG
  split
  · simp only
    split <;> omega
  · simp
theorem partZ_all' {x : Int} {E : Nat → Int} {n : Nat} (i : Nat) (hi : i < n) : partZ x E n i = E i := by unfold partZ; rw [if_pos hi]
theorem partZ_zero' (x : Int) (E : Nat → Int) (i : Nat) : partZ x E 0 i = x := by unfold partZ; rw [if_neg (by omega)]

end Go.Proofs.YthmkmemocjnleaaDoor
