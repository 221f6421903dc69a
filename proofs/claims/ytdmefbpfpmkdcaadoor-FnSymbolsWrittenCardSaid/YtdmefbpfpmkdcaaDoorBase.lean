/- Small words and lemmas that all walks of this seat share: what is known of a slice of integers that came in (IsRow); equations on what is returned. -/
import Derived.Test.YtdmefbpfpmkdcaaDoorRows
import Derived.WalkKit
import Derived.IntWalk
import Derived.Lib.Hide
namespace Go.Proofs.YtdmefbpfpmkdcaaDoor
open Go.RowKit

/-- What is known of a slice of integers that came in: it is nil, or it leads to a row of 'cap' cells. -/
def IsRow (k : IntKind) (w : World) (a : Option Addr) (len cap : Nat) (zs : List Int) : Prop :=
  (a = none ∧ len = 0 ∧ cap = 0 ∧ zs = []) ∨
  ∃ x, a = some x ∧ len ≤ cap ∧ cap ≤ maxLen ∧ zs.length = cap ∧ (∀ i, i < zs.length → w.cell? (x.add i) = some (.int k (zs.getD i 0))) ∧ ∀ n ∈ zs, (Lit.int k n).wf = true

theorem ret_int {k : IntKind} {a b : Int} (h : a = b) : Ending.returned (.int k a) = .returned (.int k b) := by rw [h]
theorem u8_bounds {n : Int} (h : (Lit.int .u8 n).wf = true) : 0 ≤ n ∧ n ≤ 255 := by simp [Lit.wf, IntKind.min, IntKind.max, IntKind.signed, IntKind.bits] at h; omega
end Go.Proofs.YtdmefbpfpmkdcaaDoor
