/-
  NARROWER THAN 'FOR EVERY INPUT', by the rows' own cells (each row's printed sentence says how): FnBools: laid · FnLiterals: laid · FnEdge: laid · FnSegments: laid · FnInverseDC: laid · FnFilters: laid.
  DERIVED. THE GIVEN ROWS OF THIS SEAT. 6 by the template 'for every input the law returns true; each argument reads behind the call as it read before'; 0 by the template 'total and deterministic' (their statements: YthmkmemocjnleaaDoorTotals.lean).
  GIVEN WITH THE SEED: the statements are not yours to turn. If you find one false, say at which input.
  Laid BY PROGRAM, IN A SANDBOX (cutbox-rows.mjs): the forced cells as the released guide's own fill.sh prints them over the translation 7fec3bdb538472f3… (all of the seat's roots in one cut). By AI agents, Wed Nov 11 2026. No macro, syntax, notation, axiom, sorry.
-/
import Derived.Test.YthmkmemocjnleaaDoorChecked
import GoSem.Claim
import GoSem.ClaimJoined
import GoSem.ClaimMapViews
import Derived.JoinedTies
import Derived.KernelRfl
namespace Go.Proofs.YthmkmemocjnleaaDoor
/- THE CELL 'sum', in the pinned program and in every row, IS THE sha256 OF THE DUMP (.gsa) THAT YthmkmemocjnleaaDoorProg.lean LOADS. Nothing in Lean hashes anything: it is a label: what it is worth is what the hold of that sum in a sandbox is worth. -/
noncomputable def Tryd.pinned : Pinned := { name := "ythmkmemocjnleaadoor", sum := "7fec3bdb538472f320da899e1991e862b5ca68bc9ff0b8b35666f3b6741d932d", checked := Tryd.checked }
namespace Rows
def none {H : Type} : Left H := { results := [], args := [] }

/- WHAT THE LISTED PACKAGE-LEVEL VARIABLES READ AS WHEN THE CALL BEGINS. Each datum BY PROGRAM (the guide's laid-datum.mjs) off the statement by which the dump's own 'gosem.cut.vars' lays the variable. In a bare row this is a premise. The card (YthmkmemocjnleaaDoorCards.lean) ties it to the program's text. -/
def laid_pub_weftwise_pub_image_vp8_lutShift {H : Type} : DataW H := .agg [.lit (.int .u8 7), .lit (.int .u8 6), .lit (.int .u8 6), .lit (.int .u8 5), .lit (.int .u8 5), .lit (.int .u8 5), .lit (.int .u8 5), .lit (.int .u8 4), .lit (.int .u8 4), .lit (.int .u8 4), .lit (.int .u8 4), .lit (.int .u8 4), .lit (.int .u8 4), .lit (.int .u8 4), .lit (.int .u8 4), .lit (.int .u8 3), .lit (.int .u8 3), .lit (.int .u8 3), .lit (.int .u8 3), .lit (.int .u8 3), .lit (.int .u8 3), .lit (.int .u8 3), .lit (.int .u8 3), .lit (.int .u8 3), .lit (.int .u8 3), .lit (.int .u8 3), .lit (.int .u8 3), .lit (.int .u8 3), .lit (.int .u8 3), .lit (.int .u8 3), .lit (.int .u8 3), .lit (.int .u8 2), .lit (.int .u8 2), .lit (.int .u8 2), .lit (.int .u8 2), .lit (.int .u8 2), .lit (.int .u8 2), .lit (.int .u8 2), .lit (.int .u8 2), .lit (.int .u8 2), .lit (.int .u8 2), .lit (.int .u8 2), .lit (.int .u8 2), .lit (.int .u8 2), .lit (.int .u8 2), .lit (.int .u8 2), .lit (.int .u8 2), .lit (.int .u8 2), .lit (.int .u8 2), .lit (.int .u8 2), .lit (.int .u8 2), .lit (.int .u8 2), .lit (.int .u8 2), .lit (.int .u8 2), .lit (.int .u8 2), .lit (.int .u8 2), .lit (.int .u8 2), .lit (.int .u8 2), .lit (.int .u8 2), .lit (.int .u8 2), .lit (.int .u8 2), .lit (.int .u8 2), .lit (.int .u8 2), .lit (.int .u8 1), .lit (.int .u8 1), .lit (.int .u8 1), .lit (.int .u8 1), .lit (.int .u8 1), .lit (.int .u8 1), .lit (.int .u8 1), .lit (.int .u8 1), .lit (.int .u8 1), .lit (.int .u8 1), .lit (.int .u8 1), .lit (.int .u8 1), .lit (.int .u8 1), .lit (.int .u8 1), .lit (.int .u8 1), .lit (.int .u8 1), .lit (.int .u8 1), .lit (.int .u8 1), .lit (.int .u8 1), .lit (.int .u8 1), .lit (.int .u8 1), .lit (.int .u8 1), .lit (.int .u8 1), .lit (.int .u8 1), .lit (.int .u8 1), .lit (.int .u8 1), .lit (.int .u8 1), .lit (.int .u8 1), .lit (.int .u8 1), .lit (.int .u8 1), .lit (.int .u8 1), .lit (.int .u8 1), .lit (.int .u8 1), .lit (.int .u8 1), .lit (.int .u8 1), .lit (.int .u8 1), .lit (.int .u8 1), .lit (.int .u8 1), .lit (.int .u8 1), .lit (.int .u8 1), .lit (.int .u8 1), .lit (.int .u8 1), .lit (.int .u8 1), .lit (.int .u8 1), .lit (.int .u8 1), .lit (.int .u8 1), .lit (.int .u8 1), .lit (.int .u8 1), .lit (.int .u8 1), .lit (.int .u8 1), .lit (.int .u8 1), .lit (.int .u8 1), .lit (.int .u8 1), .lit (.int .u8 1), .lit (.int .u8 1), .lit (.int .u8 1), .lit (.int .u8 1), .lit (.int .u8 1), .lit (.int .u8 1), .lit (.int .u8 1), .lit (.int .u8 1), .lit (.int .u8 1), .lit (.int .u8 1), .lit (.int .u8 1)]
def laid_pub_weftwise_pub_image_vp8_lutRangeM1 {H : Type} : DataW H := .agg [.lit (.int .u8 127), .lit (.int .u8 127), .lit (.int .u8 191), .lit (.int .u8 127), .lit (.int .u8 159), .lit (.int .u8 191), .lit (.int .u8 223), .lit (.int .u8 127), .lit (.int .u8 143), .lit (.int .u8 159), .lit (.int .u8 175), .lit (.int .u8 191), .lit (.int .u8 207), .lit (.int .u8 223), .lit (.int .u8 239), .lit (.int .u8 127), .lit (.int .u8 135), .lit (.int .u8 143), .lit (.int .u8 151), .lit (.int .u8 159), .lit (.int .u8 167), .lit (.int .u8 175), .lit (.int .u8 183), .lit (.int .u8 191), .lit (.int .u8 199), .lit (.int .u8 207), .lit (.int .u8 215), .lit (.int .u8 223), .lit (.int .u8 231), .lit (.int .u8 239), .lit (.int .u8 247), .lit (.int .u8 127), .lit (.int .u8 131), .lit (.int .u8 135), .lit (.int .u8 139), .lit (.int .u8 143), .lit (.int .u8 147), .lit (.int .u8 151), .lit (.int .u8 155), .lit (.int .u8 159), .lit (.int .u8 163), .lit (.int .u8 167), .lit (.int .u8 171), .lit (.int .u8 175), .lit (.int .u8 179), .lit (.int .u8 183), .lit (.int .u8 187), .lit (.int .u8 191), .lit (.int .u8 195), .lit (.int .u8 199), .lit (.int .u8 203), .lit (.int .u8 207), .lit (.int .u8 211), .lit (.int .u8 215), .lit (.int .u8 219), .lit (.int .u8 223), .lit (.int .u8 227), .lit (.int .u8 231), .lit (.int .u8 235), .lit (.int .u8 239), .lit (.int .u8 243), .lit (.int .u8 247), .lit (.int .u8 251), .lit (.int .u8 127), .lit (.int .u8 129), .lit (.int .u8 131), .lit (.int .u8 133), .lit (.int .u8 135), .lit (.int .u8 137), .lit (.int .u8 139), .lit (.int .u8 141), .lit (.int .u8 143), .lit (.int .u8 145), .lit (.int .u8 147), .lit (.int .u8 149), .lit (.int .u8 151), .lit (.int .u8 153), .lit (.int .u8 155), .lit (.int .u8 157), .lit (.int .u8 159), .lit (.int .u8 161), .lit (.int .u8 163), .lit (.int .u8 165), .lit (.int .u8 167), .lit (.int .u8 169), .lit (.int .u8 171), .lit (.int .u8 173), .lit (.int .u8 175), .lit (.int .u8 177), .lit (.int .u8 179), .lit (.int .u8 181), .lit (.int .u8 183), .lit (.int .u8 185), .lit (.int .u8 187), .lit (.int .u8 189), .lit (.int .u8 191), .lit (.int .u8 193), .lit (.int .u8 195), .lit (.int .u8 197), .lit (.int .u8 199), .lit (.int .u8 201), .lit (.int .u8 203), .lit (.int .u8 205), .lit (.int .u8 207), .lit (.int .u8 209), .lit (.int .u8 211), .lit (.int .u8 213), .lit (.int .u8 215), .lit (.int .u8 217), .lit (.int .u8 219), .lit (.int .u8 221), .lit (.int .u8 223), .lit (.int .u8 225), .lit (.int .u8 227), .lit (.int .u8 229), .lit (.int .u8 231), .lit (.int .u8 233), .lit (.int .u8 235), .lit (.int .u8 237), .lit (.int .u8 239), .lit (.int .u8 241), .lit (.int .u8 243), .lit (.int .u8 245), .lit (.int .u8 247), .lit (.int .u8 249), .lit (.int .u8 251), .lit (.int .u8 253)]

/-- 'laws.FnBools': WHATEVER THE INPUT: true; the input reads as it did. -/
def fnBoolsSpec : ChangeSpec := { name := "fnBools", fn := fun _ => fun
  | [d1, d2] => { results := [.lit (.bool true)], args := [d1, d2] }
  | _ => none }
def fnBoolsRow : OpenClaim := { program := "ythmkmemocjnleaadoor", sum := "7fec3bdb538472f320da899e1991e862b5ca68bc9ff0b8b35666f3b6741d932d", func := "pub-weftwise/laws.FnBools", spec := "fnBools", named := ["pub-weftwise/pub/image/vp8.lutShift", "pub-weftwise/pub/image/vp8.lutRangeM1"], apart := false, laid := [("pub-weftwise/pub/image/vp8.lutShift", laid_pub_weftwise_pub_image_vp8_lutShift), ("pub-weftwise/pub/image/vp8.lutRangeM1", laid_pub_weftwise_pub_image_vp8_lutRangeM1)] }
def FnBoolsSaid : Prop := fnBoolsRow.holds Tryd.pinned (OpenSpec.ofChange fnBoolsSpec)

/-- ITS FALSE NEIGHBOUR: 'it returns false'. Refute it at one input. -/
def fnBoolsWrong : ChangeSpec := { name := "fnBools", fn := fun _ => fun
  | [d1, d2] => { results := [.lit (.bool false)], args := [d1, d2] }
  | _ => none }
def FnBoolsWrongFalsely : Prop := fnBoolsRow.holds Tryd.pinned (OpenSpec.ofChange fnBoolsWrong)

/-- 'laws.FnLiterals': WHATEVER THE INPUT: true; the input reads as it did. -/
def fnLiteralsSpec : ChangeSpec := { name := "fnLiterals", fn := fun _ => fun
  | [d1, d2] => { results := [.lit (.bool true)], args := [d1, d2] }
  | _ => none }
def fnLiteralsRow : OpenClaim := { program := "ythmkmemocjnleaadoor", sum := "7fec3bdb538472f320da899e1991e862b5ca68bc9ff0b8b35666f3b6741d932d", func := "pub-weftwise/laws.FnLiterals", spec := "fnLiterals", named := ["pub-weftwise/pub/image/vp8.lutShift", "pub-weftwise/pub/image/vp8.lutRangeM1"], apart := false, laid := [("pub-weftwise/pub/image/vp8.lutShift", laid_pub_weftwise_pub_image_vp8_lutShift), ("pub-weftwise/pub/image/vp8.lutRangeM1", laid_pub_weftwise_pub_image_vp8_lutRangeM1)] }
def FnLiteralsSaid : Prop := fnLiteralsRow.holds Tryd.pinned (OpenSpec.ofChange fnLiteralsSpec)

/-- ITS FALSE NEIGHBOUR: 'it returns false'. Refute it at one input. -/
def fnLiteralsWrong : ChangeSpec := { name := "fnLiterals", fn := fun _ => fun
  | [d1, d2] => { results := [.lit (.bool false)], args := [d1, d2] }
  | _ => none }
def FnLiteralsWrongFalsely : Prop := fnLiteralsRow.holds Tryd.pinned (OpenSpec.ofChange fnLiteralsWrong)

/-- 'laws.FnEdge': WHATEVER THE INPUT: true; the input reads as it did. -/
def fnEdgeSpec : ChangeSpec := { name := "fnEdge", fn := fun _ => fun
  | [d1, d2, d3] => { results := [.lit (.bool true)], args := [d1, d2, d3] }
  | _ => none }
def fnEdgeRow : OpenClaim := { program := "ythmkmemocjnleaadoor", sum := "7fec3bdb538472f320da899e1991e862b5ca68bc9ff0b8b35666f3b6741d932d", func := "pub-weftwise/laws.FnEdge", spec := "fnEdge", named := ["pub-weftwise/pub/image/vp8.lutShift", "pub-weftwise/pub/image/vp8.lutRangeM1"], apart := false, laid := [("pub-weftwise/pub/image/vp8.lutShift", laid_pub_weftwise_pub_image_vp8_lutShift), ("pub-weftwise/pub/image/vp8.lutRangeM1", laid_pub_weftwise_pub_image_vp8_lutRangeM1)] }
def FnEdgeSaid : Prop := fnEdgeRow.holds Tryd.pinned (OpenSpec.ofChange fnEdgeSpec)

/-- ITS FALSE NEIGHBOUR: 'it returns false'. Refute it at one input. -/
def fnEdgeWrong : ChangeSpec := { name := "fnEdge", fn := fun _ => fun
  | [d1, d2, d3] => { results := [.lit (.bool false)], args := [d1, d2, d3] }
  | _ => none }
def FnEdgeWrongFalsely : Prop := fnEdgeRow.holds Tryd.pinned (OpenSpec.ofChange fnEdgeWrong)

/-- 'laws.FnSegments': WHATEVER THE INPUT: true; the input reads as it did. -/
def fnSegmentsSpec : ChangeSpec := { name := "fnSegments", fn := fun _ => fun
  | [d] => { results := [.lit (.bool true)], args := [d] }
  | _ => none }
def fnSegmentsRow : OpenClaim := { program := "ythmkmemocjnleaadoor", sum := "7fec3bdb538472f320da899e1991e862b5ca68bc9ff0b8b35666f3b6741d932d", func := "pub-weftwise/laws.FnSegments", spec := "fnSegments", named := ["pub-weftwise/pub/image/vp8.lutShift", "pub-weftwise/pub/image/vp8.lutRangeM1"], apart := false, laid := [("pub-weftwise/pub/image/vp8.lutShift", laid_pub_weftwise_pub_image_vp8_lutShift), ("pub-weftwise/pub/image/vp8.lutRangeM1", laid_pub_weftwise_pub_image_vp8_lutRangeM1)] }
def FnSegmentsSaid : Prop := fnSegmentsRow.holds Tryd.pinned (OpenSpec.ofChange fnSegmentsSpec)

/-- ITS FALSE NEIGHBOUR: 'it returns false'. Refute it at one input. -/
def fnSegmentsWrong : ChangeSpec := { name := "fnSegments", fn := fun _ => fun
  | [d] => { results := [.lit (.bool false)], args := [d] }
  | _ => none }
def FnSegmentsWrongFalsely : Prop := fnSegmentsRow.holds Tryd.pinned (OpenSpec.ofChange fnSegmentsWrong)

/-- 'laws.FnInverseDC': WHATEVER THE INPUT: true; the input reads as it did. -/
def fnInverseDCSpec : ChangeSpec := { name := "fnInverseDC", fn := fun _ => fun
  | [d1, d2] => { results := [.lit (.bool true)], args := [d1, d2] }
  | _ => none }
def fnInverseDCRow : OpenClaim := { program := "ythmkmemocjnleaadoor", sum := "7fec3bdb538472f320da899e1991e862b5ca68bc9ff0b8b35666f3b6741d932d", func := "pub-weftwise/laws.FnInverseDC", spec := "fnInverseDC", named := ["pub-weftwise/pub/image/vp8.lutShift", "pub-weftwise/pub/image/vp8.lutRangeM1"], apart := false, laid := [("pub-weftwise/pub/image/vp8.lutShift", laid_pub_weftwise_pub_image_vp8_lutShift), ("pub-weftwise/pub/image/vp8.lutRangeM1", laid_pub_weftwise_pub_image_vp8_lutRangeM1)] }
def FnInverseDCSaid : Prop := fnInverseDCRow.holds Tryd.pinned (OpenSpec.ofChange fnInverseDCSpec)

/-- ITS FALSE NEIGHBOUR: 'it returns false'. Refute it at one input. -/
def fnInverseDCWrong : ChangeSpec := { name := "fnInverseDC", fn := fun _ => fun
  | [d1, d2] => { results := [.lit (.bool false)], args := [d1, d2] }
  | _ => none }
def FnInverseDCWrongFalsely : Prop := fnInverseDCRow.holds Tryd.pinned (OpenSpec.ofChange fnInverseDCWrong)

/-- 'laws.FnFilters': WHATEVER THE INPUT: true; the input reads as it did. -/
def fnFiltersSpec : ChangeSpec := { name := "fnFilters", fn := fun _ => fun
  | [d1, d2, d3, d4] => { results := [.lit (.bool true)], args := [d1, d2, d3, d4] }
  | _ => none }
def fnFiltersRow : OpenClaim := { program := "ythmkmemocjnleaadoor", sum := "7fec3bdb538472f320da899e1991e862b5ca68bc9ff0b8b35666f3b6741d932d", func := "pub-weftwise/laws.FnFilters", spec := "fnFilters", named := ["pub-weftwise/pub/image/vp8.lutShift", "pub-weftwise/pub/image/vp8.lutRangeM1"], apart := false, laid := [("pub-weftwise/pub/image/vp8.lutShift", laid_pub_weftwise_pub_image_vp8_lutShift), ("pub-weftwise/pub/image/vp8.lutRangeM1", laid_pub_weftwise_pub_image_vp8_lutRangeM1)] }
def FnFiltersSaid : Prop := fnFiltersRow.holds Tryd.pinned (OpenSpec.ofChange fnFiltersSpec)

/-- ITS FALSE NEIGHBOUR: 'it returns false'. Refute it at one input. -/
def fnFiltersWrong : ChangeSpec := { name := "fnFilters", fn := fun _ => fun
  | [d1, d2, d3, d4] => { results := [.lit (.bool false)], args := [d1, d2, d3, d4] }
  | _ => none }
def FnFiltersWrongFalsely : Prop := fnFiltersRow.holds Tryd.pinned (OpenSpec.ofChange fnFiltersWrong)

/- THE SECOND FORM. 'bulk': how many values and letters a reading holds, each counted each time it is reached (what is shared counts as often as it is met; a slice's spare places count too). A statement '..UptoSaid' is the law's where the arguments, and the package variables that the reading takes, are together of bulk at most 1048576: NARROWER than '..Said'. Prove '..Said' where nothing that the law and all that it calls make is longer than what came in: it says more and counts as full. Else prove '..UptoSaid'. A law counts once. -/
mutual
def uptoBulk {H : Type} : DataW H → Nat
  | .lit (.string bytes) => bytes.length + 1
  | .lit _ => 1
  | .nil => 1
  | .ptr d => uptoBulk d + 1
  | .slice elems spare => uptoBulkAll elems + uptoBulkAll spare + 1
  | .agg parts => uptoBulkAll parts + 1
  | .iface _ d => uptoBulk d + 1
  | .map entries => uptoBulkEntries entries + 1
  | .held _ => 1
def uptoBulkAll {H : Type} : List (DataW H) → Nat
  | [] => 0
  | d :: r => uptoBulk d + uptoBulkAll r
def uptoBulkEntries {H : Type} : List (Lit × DataW H) → Nat
  | [] => 0
  | x :: r => uptoBulkEntry x + uptoBulkEntries r
def uptoBulkEntry {H : Type} : Lit × DataW H → Nat
  | (.string bytes, d) => bytes.length + uptoBulk d + 1
  | (_, d) => uptoBulk d + 1
 end
def uptoSmall : (H : Type) → List (DataW H) → Bool := fun _ ds => decide (uptoBulkAll ds ≤ 1048576)
def OpenSpec.upto (s : _root_.Go.ChangeSpec) : _root_.Go.OpenSpec := { _root_.Go.OpenSpec.ofChange s with cond := some uptoSmall }

/-- 'laws.FnBools', WHERE WHAT IT READS IS OF BULK AT MOST 1048576: true; the input reads as it did. -/
def fnBoolsUptoRow : OpenClaim := { program := "ythmkmemocjnleaadoor", sum := "7fec3bdb538472f320da899e1991e862b5ca68bc9ff0b8b35666f3b6741d932d", func := "pub-weftwise/laws.FnBools", spec := "fnBools", named := ["pub-weftwise/pub/image/vp8.lutShift", "pub-weftwise/pub/image/vp8.lutRangeM1"], apart := false, laid := [("pub-weftwise/pub/image/vp8.lutShift", laid_pub_weftwise_pub_image_vp8_lutShift), ("pub-weftwise/pub/image/vp8.lutRangeM1", laid_pub_weftwise_pub_image_vp8_lutRangeM1)], narrowed := true }
def FnBoolsUptoSaid : Prop := fnBoolsUptoRow.holds Tryd.pinned (OpenSpec.upto fnBoolsSpec)

/-- 'laws.FnLiterals', WHERE WHAT IT READS IS OF BULK AT MOST 1048576: true; the input reads as it did. -/
def fnLiteralsUptoRow : OpenClaim := { program := "ythmkmemocjnleaadoor", sum := "7fec3bdb538472f320da899e1991e862b5ca68bc9ff0b8b35666f3b6741d932d", func := "pub-weftwise/laws.FnLiterals", spec := "fnLiterals", named := ["pub-weftwise/pub/image/vp8.lutShift", "pub-weftwise/pub/image/vp8.lutRangeM1"], apart := false, laid := [("pub-weftwise/pub/image/vp8.lutShift", laid_pub_weftwise_pub_image_vp8_lutShift), ("pub-weftwise/pub/image/vp8.lutRangeM1", laid_pub_weftwise_pub_image_vp8_lutRangeM1)], narrowed := true }
def FnLiteralsUptoSaid : Prop := fnLiteralsUptoRow.holds Tryd.pinned (OpenSpec.upto fnLiteralsSpec)

/-- 'laws.FnEdge', WHERE WHAT IT READS IS OF BULK AT MOST 1048576: true; the input reads as it did. -/
def fnEdgeUptoRow : OpenClaim := { program := "ythmkmemocjnleaadoor", sum := "7fec3bdb538472f320da899e1991e862b5ca68bc9ff0b8b35666f3b6741d932d", func := "pub-weftwise/laws.FnEdge", spec := "fnEdge", named := ["pub-weftwise/pub/image/vp8.lutShift", "pub-weftwise/pub/image/vp8.lutRangeM1"], apart := false, laid := [("pub-weftwise/pub/image/vp8.lutShift", laid_pub_weftwise_pub_image_vp8_lutShift), ("pub-weftwise/pub/image/vp8.lutRangeM1", laid_pub_weftwise_pub_image_vp8_lutRangeM1)], narrowed := true }
def FnEdgeUptoSaid : Prop := fnEdgeUptoRow.holds Tryd.pinned (OpenSpec.upto fnEdgeSpec)

/-- 'laws.FnSegments', WHERE WHAT IT READS IS OF BULK AT MOST 1048576: true; the input reads as it did. -/
def fnSegmentsUptoRow : OpenClaim := { program := "ythmkmemocjnleaadoor", sum := "7fec3bdb538472f320da899e1991e862b5ca68bc9ff0b8b35666f3b6741d932d", func := "pub-weftwise/laws.FnSegments", spec := "fnSegments", named := ["pub-weftwise/pub/image/vp8.lutShift", "pub-weftwise/pub/image/vp8.lutRangeM1"], apart := false, laid := [("pub-weftwise/pub/image/vp8.lutShift", laid_pub_weftwise_pub_image_vp8_lutShift), ("pub-weftwise/pub/image/vp8.lutRangeM1", laid_pub_weftwise_pub_image_vp8_lutRangeM1)], narrowed := true }
def FnSegmentsUptoSaid : Prop := fnSegmentsUptoRow.holds Tryd.pinned (OpenSpec.upto fnSegmentsSpec)

/-- 'laws.FnInverseDC', WHERE WHAT IT READS IS OF BULK AT MOST 1048576: true; the input reads as it did. -/
def fnInverseDCUptoRow : OpenClaim := { program := "ythmkmemocjnleaadoor", sum := "7fec3bdb538472f320da899e1991e862b5ca68bc9ff0b8b35666f3b6741d932d", func := "pub-weftwise/laws.FnInverseDC", spec := "fnInverseDC", named := ["pub-weftwise/pub/image/vp8.lutShift", "pub-weftwise/pub/image/vp8.lutRangeM1"], apart := false, laid := [("pub-weftwise/pub/image/vp8.lutShift", laid_pub_weftwise_pub_image_vp8_lutShift), ("pub-weftwise/pub/image/vp8.lutRangeM1", laid_pub_weftwise_pub_image_vp8_lutRangeM1)], narrowed := true }
def FnInverseDCUptoSaid : Prop := fnInverseDCUptoRow.holds Tryd.pinned (OpenSpec.upto fnInverseDCSpec)

/-- 'laws.FnFilters', WHERE WHAT IT READS IS OF BULK AT MOST 1048576: true; the input reads as it did. -/
def fnFiltersUptoRow : OpenClaim := { program := "ythmkmemocjnleaadoor", sum := "7fec3bdb538472f320da899e1991e862b5ca68bc9ff0b8b35666f3b6741d932d", func := "pub-weftwise/laws.FnFilters", spec := "fnFilters", named := ["pub-weftwise/pub/image/vp8.lutShift", "pub-weftwise/pub/image/vp8.lutRangeM1"], apart := false, laid := [("pub-weftwise/pub/image/vp8.lutShift", laid_pub_weftwise_pub_image_vp8_lutShift), ("pub-weftwise/pub/image/vp8.lutRangeM1", laid_pub_weftwise_pub_image_vp8_lutRangeM1)], narrowed := true }
def FnFiltersUptoSaid : Prop := fnFiltersUptoRow.holds Tryd.pinned (OpenSpec.upto fnFiltersSpec)

end Rows
end Go.Proofs.YthmkmemocjnleaaDoor
