/- How errors are compared; the sentinels that the readers of bits name. -/
import Derived.Test.YtdmefbpfpmkdcaaDoorCommon
import Derived.LaidEqlPtr
import Derived.KernelRfl
namespace Go.Proofs.YtdmefbpfpmkdcaaDoor
open Go.RowKit
set_option linter.unusedVariables false

theorem info_some {T : TypeId} {n : Nat} (h : (Tryd.prog.info? T).map (·.size) = some n) : ∃ j, Tryd.prog.info? T = some j ∧ j.size = n := by
  cases e : Tryd.prog.info? T with
  | none => rw [e] at h; cases h
  | some j => rw [e] at h; exact ⟨j, rfl, by simpa using h⟩
theorem info_comp {T : TypeId} (h : (Tryd.prog.info? T).map (·.comparable) = some true) : ∃ j, Tryd.prog.info? T = some j ∧ j.comparable = true := by
  cases e : Tryd.prog.info? T with
  | none => rw [e] at h; cases h
  | some j => rw [e] at h; exact ⟨j, rfl, by simpa using h⟩
theorem err_same (a : Addr) (w : World) (d : Nat) : (Op.equalIn (d + 2) 63 (.iface 117 (.pointer (some a))) (.iface 117 (.pointer (some a)))).run Tryd.prog w = .ok true w := by
  obtain ⟨j, hj, _⟩ := info_some (T := 136) (n := 1) (by kernel_rfl)
  obtain ⟨i, hi, hc⟩ := info_comp (T := 117) (by kernel_rfl)
  exact run_equalIn_iface_ptr_same w d a Tryd.underlying63 Tryd.underlying117 hi hc hj
theorem eql_of {T T' : TypeId} {x y : Value} {w : World} {b : Bool} (h : ∀ d, (Op.equalIn (d + 2) 63 (.iface T x) (.iface T' y)).run Tryd.prog w = .ok b w) : (binOp .eql 63 (.iface T x) (.iface T' y)).run Tryd.prog w = .ok (.bool b) w := by
  simp only [binOp]
  simp [Op.equal, Op.maxDepth, h 9998]
/-- An error compared with itself. -/
theorem eql_err (a : Addr) (w : World) : (binOp .eql 63 (.iface 117 (.pointer (some a))) (.iface 117 (.pointer (some a)))).run Tryd.prog w = .ok (.bool true) w := eql_of (err_same a w)
/-- An error as a value. -/
def errV (a : Addr) : Value := .iface 117 (.pointer (some a))
/-- The sentinels: io.EOF and io.ErrUnexpectedEOF. -/
def SntE (w : World) : Prop := (∃ a, w.cell? ⟨0, 0, none⟩ = some (errV a)) ∧ (∃ a, w.cell? ⟨1, 0, none⟩ = some (errV a))
end Go.Proofs.YtdmefbpfpmkdcaaDoor
