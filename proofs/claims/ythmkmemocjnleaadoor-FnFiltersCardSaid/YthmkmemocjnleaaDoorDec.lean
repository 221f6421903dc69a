/- The zero value of the decoder of frames: its cells as the program has them, and where the workspace and the coefficients stand. -/
import Derived.Test.YthmkmemocjnleaaDoorCommon
import Derived.Laws.Tables
namespace Go.Proofs.YthmkmemocjnleaaDoor
open Go.RowKit
set_option linter.unusedVariables false

/-- The zero value's cells. -/
noncomputable def zDec0 : Array Value := (((Tryd.prog.info? 169).bind (·.zero)).map (·.cells)).getD #[]
@[irreducible] noncomputable def zDec : Array Value := zDec0
theorem zDec_eq : zDec = zDec0 := by unfold zDec; rfl
theorem zDec_parts : zDec.toList = zDec.toList.take 1250 ++ (List.replicate 400 (.int .i16 0) ++ List.replicate 832 (.int .u8 0)) := by rw [zDec_eq]; kernel_rfl
theorem zDec_size : zDec.size = 2482 := by rw [zDec_eq]; kernel_rfl
theorem zDec_len : (zDec.toList.take 1250).length = 1250 := by rw [List.length_take, Array.length_toList, zDec_size]; rfl
theorem zDec_at (i : Nat) (h : 1250 ≤ i) : zDec[i]? = (List.replicate 400 (Value.int .i16 0) ++ List.replicate 832 (.int .u8 0))[i - 1250]? := by
  rw [← Array.getElem?_toList, zDec_parts, List.getElem?_append_right (by rw [zDec_len]; exact h), zDec_len]
theorem zDec_ybr (i : Nat) (hi : i < 832) : zDec[1650 + i]? = some (.int .u8 0) := by
  rw [zDec_at _ (by omega), List.getElem?_append_right (by rw [List.length_replicate]; omega), List.length_replicate, List.getElem?_replicate, if_pos (by omega)]
theorem zDec_coeff (i : Nat) (hi : i < 400) : zDec[1250 + i]? = some (.int .i16 0) := by
  rw [zDec_at _ (by omega), List.getElem?_append_left (by rw [List.length_replicate]; omega), List.getElem?_replicate, if_pos (by omega)]
theorem zDec_run (w : World) : (zeroValue 169).run Tryd.prog w = .ok (.agg zDec) w := by rw [zDec_eq]; kernel_rfl
theorem zDec_built : Tryd.prog.built 169 [] = some zDec := by rw [zDec_eq]; kernel_rfl

/-- The workspace of a decoder in block g: 26 rows of 32. -/
def Ybr (w : World) (g : Nat) (y : Nat → Int) : Prop := Row .u8 w g 1650 832 y ∧ Wr w g 1650 832
/-- The coefficients. -/
def Cof (w : World) (g : Nat) (y : Nat → Int) : Prop := Row .i16 w g 1250 400 y ∧ Wr w g 1250 400
theorem dec_new (w : World) : Ybr (w.alloc (.cells zDec 169)) w.heap.size (fun _ => 0) ∧ Cof (w.alloc (.cells zDec 169)) w.heap.size (fun _ => 0) := by
  refine ⟨⟨fun i hi => ?_, fun i hi => frozen_of_row _ _ _ _ _ (heap_alloc_new w _)⟩, ⟨fun i hi => ?_, fun i hi => frozen_of_row _ _ _ _ _ (heap_alloc_new w _)⟩⟩
  · rw [cell_of_row _ _ _ _ _ _ (heap_alloc_new w _)]; exact zDec_ybr i hi
  · rw [cell_of_row _ _ _ _ _ _ (heap_alloc_new w _)]; exact zDec_coeff i hi
end Go.Proofs.YthmkmemocjnleaaDoor
