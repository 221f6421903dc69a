/-
  DERIVED. GIVEN WITH THE SEED: THE PROGRAM's TIES (one call each: nine closed facts by the kernel) AND EACH ROW's TIE, after the 31st guide's Derived/Test/Toyas{Tie, Card}.lean. No idea stands in it: it is a product of the set-up. Laid BY PROGRAM, IN A SANDBOX (cutbox-door.mjs). By AI agents, Wed Nov 11 2026. No macro, syntax, notation, axiom, sorry.
-/
import Derived.Test.YthmkmemocjnleaaDoorRows
import Derived.LaidByTextLater
import Derived.SevenTiedAt
import Derived.LaidSub
import Derived.LaidOnce
namespace Go.Proofs.YthmkmemocjnleaaDoor
open Go
set_option maxRecDepth 100000
theorem seatTie1 : Tryd.prog.laidByTextLater [("pub-weftwise/pub/image/vp8.lutShift", Rows.laid_pub_weftwise_pub_image_vp8_lutShift), ("pub-weftwise/pub/image/vp8.lutRangeM1", Rows.laid_pub_weftwise_pub_image_vp8_lutRangeM1)] [.data, .data] true :=
  Program.laidByTextLater_by_one 19 8 128 (by kernel_rfl) (by kernel_rfl) (by kernel_rfl) (by kernel_rfl) (by kernel_rfl) (by kernel_rfl) (fun _ _ => by kernel_rfl)
theorem noOwnUnsafe : Tryd.pinned.checked.prog.headLifts.contains "ownunsafe" = false := by kernel_rfl
theorem tie : Tryd.prog.laidByTextLater [("pub-weftwise/pub/image/vp8.lutShift", Rows.laid_pub_weftwise_pub_image_vp8_lutShift), ("pub-weftwise/pub/image/vp8.lutRangeM1", Rows.laid_pub_weftwise_pub_image_vp8_lutRangeM1)] [.data, .data] true :=
  Program.laidByTextLater.sub seatTie1 ["pub-weftwise/pub/image/vp8.lutShift", "pub-weftwise/pub/image/vp8.lutRangeM1"] (by kernel_rfl) (by kernel_rfl)
theorem fnBools_row_tie : Rows.fnBoolsRow.laidByTextAt .later Tryd.pinned [.data, .data] true :=
  OpenClaim.laidByTextAt_later rfl rfl tie noOwnUnsafe
theorem fnLiterals_row_tie : Rows.fnLiteralsRow.laidByTextAt .later Tryd.pinned [.data, .data] true :=
  OpenClaim.laidByTextAt_later rfl rfl tie noOwnUnsafe
theorem fnEdge_row_tie : Rows.fnEdgeRow.laidByTextAt .later Tryd.pinned [.data, .data] true :=
  OpenClaim.laidByTextAt_later rfl rfl tie noOwnUnsafe
theorem fnSegments_row_tie : Rows.fnSegmentsRow.laidByTextAt .later Tryd.pinned [.data, .data] true :=
  OpenClaim.laidByTextAt_later rfl rfl tie noOwnUnsafe
theorem fnInverseDC_row_tie : Rows.fnInverseDCRow.laidByTextAt .later Tryd.pinned [.data, .data] true :=
  OpenClaim.laidByTextAt_later rfl rfl tie noOwnUnsafe
theorem fnFilters_row_tie : Rows.fnFiltersRow.laidByTextAt .later Tryd.pinned [.data, .data] true :=
  OpenClaim.laidByTextAt_later rfl rfl tie noOwnUnsafe
theorem fnBoolsUpto_row_tie : Rows.fnBoolsUptoRow.laidByTextAt .later Tryd.pinned [.data, .data] true :=
  OpenClaim.laidByTextAt_later rfl rfl tie noOwnUnsafe
theorem fnLiteralsUpto_row_tie : Rows.fnLiteralsUptoRow.laidByTextAt .later Tryd.pinned [.data, .data] true :=
  OpenClaim.laidByTextAt_later rfl rfl tie noOwnUnsafe
theorem fnEdgeUpto_row_tie : Rows.fnEdgeUptoRow.laidByTextAt .later Tryd.pinned [.data, .data] true :=
  OpenClaim.laidByTextAt_later rfl rfl tie noOwnUnsafe
theorem fnSegmentsUpto_row_tie : Rows.fnSegmentsUptoRow.laidByTextAt .later Tryd.pinned [.data, .data] true :=
  OpenClaim.laidByTextAt_later rfl rfl tie noOwnUnsafe
theorem fnInverseDCUpto_row_tie : Rows.fnInverseDCUptoRow.laidByTextAt .later Tryd.pinned [.data, .data] true :=
  OpenClaim.laidByTextAt_later rfl rfl tie noOwnUnsafe
theorem fnFiltersUpto_row_tie : Rows.fnFiltersUptoRow.laidByTextAt .later Tryd.pinned [.data, .data] true :=
  OpenClaim.laidByTextAt_later rfl rfl tie noOwnUnsafe
end Go.Proofs.YthmkmemocjnleaaDoor
