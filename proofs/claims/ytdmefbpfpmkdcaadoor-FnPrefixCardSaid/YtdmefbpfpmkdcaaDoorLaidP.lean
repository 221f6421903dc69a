/- What the row of laws.FnPrefix lists, as the walk takes it. -/
import Derived.Test.YtdmefbpfpmkdcaaDoorLaidS
import Derived.Test.YtdmefbpfpmkdcaaDoorIDcl
namespace Go.Proofs.YtdmefbpfpmkdcaaDoor
open Go.RowKit
set_option linter.unusedVariables false

def ordTab : List Int := (List.range 19).map fun i => (ordP i : Int)
def bitTab : List Int := (List.range 3).map fun i => (extB (16 + i) : Int)
def offTab : List Int := (List.range 3).map fun i => (extO (16 + i) : Int)
theorem ord_data : (Rows.laid_pub_weftwise_pub_image_vp8l_codeLengthCodeOrder : DataW Unit) = Lib.tabData .u8 ordTab := by kernel_rfl
theorem bit_data : (Rows.laid_pub_weftwise_pub_image_vp8l_repeatBits : DataW Unit) = Lib.tabData .u8 bitTab := by kernel_rfl
theorem off_data : (Rows.laid_pub_weftwise_pub_image_vp8l_repeatOffsets : DataW Unit) = Lib.tabData .u8 offTab := by kernel_rfl
theorem mapTab_at (F : Nat → Nat) (n i : Nat) (hi : i < n) : ((List.range n).map fun i => (F i : Int)).getD i 0 = (F i : Int) := by
  rw [List.getD_eq_getElem?_getD, List.getElem?_map, List.getElem?_range hi]; rfl
theorem gOrd : Tryd.prog.globalNamed "pub-weftwise/pub/image/vp8l.codeLengthCodeOrder" = some 3 := by kernel_rfl
theorem gOrdTy : (Tryd.prog.globals[3]?).map (·.type) = some 111 := by kernel_rfl
theorem ordCells : Tryd.prog.cellsOf 111 = 19 := by kernel_rfl
theorem gBit : Tryd.prog.globalNamed "pub-weftwise/pub/image/vp8l.repeatBits" = some 6 := by kernel_rfl
theorem gBitTy : (Tryd.prog.globals[6]?).map (·.type) = some 116 := by kernel_rfl
theorem bitCells3 : Tryd.prog.cellsOf 116 = 3 := by kernel_rfl
theorem gOff : Tryd.prog.globalNamed "pub-weftwise/pub/image/vp8l.repeatOffsets" = some 7 := by kernel_rfl
theorem gOffTy : (Tryd.prog.globals[7]?).map (·.type) = some 116 := by kernel_rfl
theorem tabP_of {W : World} {rest : List (String × DataW Unit)} (h : laidMet Tryd.prog (("pub-weftwise/pub/image/vp8l.codeLengthCodeOrder", Rows.laid_pub_weftwise_pub_image_vp8l_codeLengthCodeOrder) :: ("pub-weftwise/pub/image/vp8l.repeatBits", Rows.laid_pub_weftwise_pub_image_vp8l_repeatBits) :: ("pub-weftwise/pub/image/vp8l.repeatOffsets", Rows.laid_pub_weftwise_pub_image_vp8l_repeatOffsets) :: rest) W) : TabP W := by
  rw [ord_data, bit_data, off_data] at h
  have h1 : Lib.TabIs Tryd.prog W "pub-weftwise/pub/image/vp8l.codeLengthCodeOrder" .u8 ordTab := Lib.tabIs_of_head gOrd gOrdTy Tryd.underlying111 Tryd.underlying5 u8Cells ordCells h
  have h2 : Lib.TabIs Tryd.prog W "pub-weftwise/pub/image/vp8l.repeatBits" .u8 bitTab := Lib.tabIs_of_head gBit gBitTy Tryd.underlying116 Tryd.underlying5 u8Cells bitCells3 (laidMet.tail h)
  have h3 : Lib.TabIs Tryd.prog W "pub-weftwise/pub/image/vp8l.repeatOffsets" .u8 offTab := Lib.tabIs_of_head gOff gOffTy Tryd.underlying116 Tryd.underlying5 u8Cells bitCells3 (laidMet.tail (laidMet.tail h))
  refine ⟨fun i hi => ?_, fun i hi => ?_, fun i hi => ?_⟩
  · rw [← mapTab_at ordP 19 i hi]
    exact h1.cell gOrd i (by simpa [ordTab] using hi)
  · rw [← mapTab_at (fun i => extB (16 + i)) 3 i hi]
    exact h2.cell gBit i (by simpa [bitTab] using hi)
  · rw [← mapTab_at (fun i => extO (16 + i)) 3 i hi]
    exact h3.cell gOff i (by simpa [offTab] using hi)
/-- What the walk of FnPrefix takes. -/
def LaidP (w : World) : Prop := RevT w ∧ SntE w ∧ TabP w
theorem laidP_of {W : World} (h : laidMetH Tryd.prog Rows.fnPrefixRow.laid W) : LaidP W := by
  have h0 : laidMet Tryd.prog Rows.fnPrefixRow.laid W := (laidMetH_iff.1 h).1
  have h4 := laidMet.tail (laidMet.tail (laidMet.tail (laidMet.tail h0)))
  exact ⟨revT_of (laidMet.tail (laidMet.tail (laidMet.tail h4))), sntE_of h0, tabP_of h4⟩
end Go.Proofs.YtdmefbpfpmkdcaaDoor
