/- The kind of an error: impl's kindOf. -/
import Derived.Test.YthipghkhdlnfiaaDoorRfE
namespace Go.Proofs.YthipghkhdlnfiaaDoor
open Go.RowKit
set_option linter.unusedVariables false

theorem kindOf_nil (w : World) : Calls Tryd.prog 21 #[.nilIface] w fun e w' => e = .returned (.int .i64 0) ∧ w = w' := by
  go_enter Tryd.func21, Tryd.ntmps21
  go_wp2
  go_ret
  exact ⟨rfl, rfl⟩
theorem kindOf_eof (B : Nat) (E : Addr) (w : World) (h : Snt B w 0 E sE) : Calls Tryd.prog 21 #[errV E] w fun e w' => e = .returned (.int .i64 1) ∧ w = w' := by
  have kE := h.var
  have q1 := eql_err E w
  clear h
  unfold errV
  go_enter Tryd.func21, Tryd.ntmps21
  go_wp2
  go_ret
  exact ⟨rfl, rfl⟩
theorem kindOf_other (B : Nat) (E a : Addr) (g : Nat) (s : List UInt8) (w : World) (h : Snt B w 0 E sE) (ha : Snt B w g a s) (hs : s ≠ sE) : Calls Tryd.prog 21 #[errV a] w fun e w' => e = .returned (.int .i64 2) ∧ w = w' := by
  have kE := h.var
  have q1 := ha.eql h hs
  clear h ha hs
  unfold errV
  go_enter Tryd.func21, Tryd.ntmps21
  go_wp2
  go_ret
  exact ⟨rfl, rfl⟩
end Go.Proofs.YthipghkhdlnfiaaDoor
