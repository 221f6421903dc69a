/-
  NARROWER THAN 'FOR EVERY INPUT', by the rows' own cells (each row's printed sentence says how): FnRiffCuts: laid · FnRiffHeads: laid · FnRiffSkips: laid · FnRiffTree: laid.
  DERIVED. THE GIVEN ROWS OF THIS SEAT. 4 by the template 'for every input the law returns true; each argument reads behind the call as it read before'; 0 by the template 'total and deterministic' (their statements: YthipghkhdlnfiaaDoorTotals.lean).
  GIVEN WITH THE SEED: the statements are not yours to turn. If you find one false, say at which input.
  Laid BY PROGRAM, IN A SANDBOX (cutbox-rows.mjs): the forced cells as the released guide's own fill.sh prints them over the translation 3e9d111db8f08644… (all of the seat's roots in one cut). By AI agents, Wed Nov 11 2026. No macro, syntax, notation, axiom, sorry.
-/
import Derived.Test.YthipghkhdlnfiaaDoorChecked
import GoSem.Claim
import GoSem.ClaimJoined
import GoSem.ClaimMapViews
import Derived.JoinedTies
import Derived.KernelRfl
namespace Go.Proofs.YthipghkhdlnfiaaDoor
/- THE CELL 'sum', in the pinned program and in every row, IS THE sha256 OF THE DUMP (.gsa) THAT YthipghkhdlnfiaaDoorProg.lean LOADS. Nothing in Lean hashes anything: it is a label: what it is worth is what the hold of that sum in a sandbox is worth. -/
noncomputable def Tryd.pinned : Pinned := { name := "ythipghkhdlnfiaadoor", sum := "3e9d111db8f086447148885803551c8977bb9bc0d673c993b1091442b9c3da55", checked := Tryd.checked }
namespace Rows
def none {H : Type} : Left H := { results := [], args := [] }

/- WHAT THE LISTED PACKAGE-LEVEL VARIABLES READ AS WHEN THE CALL BEGINS. Each datum BY PROGRAM (the guide's laid-datum.mjs) off the statement by which the dump's own 'gosem.cut.vars' lays the variable. In a bare row this is a premise. The card (YthipghkhdlnfiaaDoorCards.lean) ties it to the program's text. -/
def laid_io_ErrShortWrite {H : Type} : DataW H := .iface "*errors.errorString" (.ptr (.agg [.lit (.string [115, 104, 111, 114, 116, 32, 119, 114, 105, 116, 101])]))
def laid_io_errInvalidWrite {H : Type} : DataW H := .iface "*errors.errorString" (.ptr (.agg [.lit (.string [105, 110, 118, 97, 108, 105, 100, 32, 119, 114, 105, 116, 101, 32, 114, 101, 115, 117, 108, 116])]))
def laid_io_ErrShortBuffer {H : Type} : DataW H := .iface "*errors.errorString" (.ptr (.agg [.lit (.string [115, 104, 111, 114, 116, 32, 98, 117, 102, 102, 101, 114])]))
def laid_io_EOF {H : Type} : DataW H := .iface "*errors.errorString" (.ptr (.agg [.lit (.string [69, 79, 70])]))
def laid_io_ErrUnexpectedEOF {H : Type} : DataW H := .iface "*errors.errorString" (.ptr (.agg [.lit (.string [117, 110, 101, 120, 112, 101, 99, 116, 101, 100, 32, 69, 79, 70])]))
def laid_pub_weftwise_pub_image_riff_errMissingPaddingByte {H : Type} : DataW H := .iface "*errors.errorString" (.ptr (.agg [.lit (.string [114, 105, 102, 102, 58, 32, 109, 105, 115, 115, 105, 110, 103, 32, 112, 97, 100, 100, 105, 110, 103, 32, 98, 121, 116, 101])]))
def laid_pub_weftwise_pub_image_riff_errMissingRIFFChunkHeader {H : Type} : DataW H := .iface "*errors.errorString" (.ptr (.agg [.lit (.string [114, 105, 102, 102, 58, 32, 109, 105, 115, 115, 105, 110, 103, 32, 82, 73, 70, 70, 32, 99, 104, 117, 110, 107, 32, 104, 101, 97, 100, 101, 114])]))
def laid_pub_weftwise_pub_image_riff_errListSubchunkTooLong {H : Type} : DataW H := .iface "*errors.errorString" (.ptr (.agg [.lit (.string [114, 105, 102, 102, 58, 32, 108, 105, 115, 116, 32, 115, 117, 98, 99, 104, 117, 110, 107, 32, 116, 111, 111, 32, 108, 111, 110, 103])]))
def laid_pub_weftwise_pub_image_riff_errShortChunkData {H : Type} : DataW H := .iface "*errors.errorString" (.ptr (.agg [.lit (.string [114, 105, 102, 102, 58, 32, 115, 104, 111, 114, 116, 32, 99, 104, 117, 110, 107, 32, 100, 97, 116, 97])]))
def laid_pub_weftwise_pub_image_riff_errShortChunkHeader {H : Type} : DataW H := .iface "*errors.errorString" (.ptr (.agg [.lit (.string [114, 105, 102, 102, 58, 32, 115, 104, 111, 114, 116, 32, 99, 104, 117, 110, 107, 32, 104, 101, 97, 100, 101, 114])]))

/-- 'laws.FnRiffCuts': WHATEVER THE INPUT: true; the input reads as it did. -/
def fnRiffCutsSpec : ChangeSpec := { name := "fnRiffCuts", fn := fun _ => fun
  | [d1, d2, d3] => { results := [.lit (.bool true)], args := [d1, d2, d3] }
  | _ => none }
def fnRiffCutsRow : OpenClaim := { program := "ythipghkhdlnfiaadoor", sum := "3e9d111db8f086447148885803551c8977bb9bc0d673c993b1091442b9c3da55", func := "pub-weftwise/laws.FnRiffCuts", spec := "fnRiffCuts", unfollowed := true, recurses := true, named := ["io.EOF", "io.ErrUnexpectedEOF", "pub-weftwise/pub/image/riff.errMissingRIFFChunkHeader", "io.ErrShortBuffer", "pub-weftwise/pub/image/riff.errShortChunkData", "pub-weftwise/pub/image/riff.errListSubchunkTooLong", "pub-weftwise/pub/image/riff.errMissingPaddingByte", "pub-weftwise/pub/image/riff.errShortChunkHeader", "io.errInvalidWrite", "io.ErrShortWrite"], apart := false, laid := [("io.ErrShortWrite", laid_io_ErrShortWrite), ("io.errInvalidWrite", laid_io_errInvalidWrite), ("io.ErrShortBuffer", laid_io_ErrShortBuffer), ("io.EOF", laid_io_EOF), ("io.ErrUnexpectedEOF", laid_io_ErrUnexpectedEOF), ("pub-weftwise/pub/image/riff.errMissingPaddingByte", laid_pub_weftwise_pub_image_riff_errMissingPaddingByte), ("pub-weftwise/pub/image/riff.errMissingRIFFChunkHeader", laid_pub_weftwise_pub_image_riff_errMissingRIFFChunkHeader), ("pub-weftwise/pub/image/riff.errListSubchunkTooLong", laid_pub_weftwise_pub_image_riff_errListSubchunkTooLong), ("pub-weftwise/pub/image/riff.errShortChunkData", laid_pub_weftwise_pub_image_riff_errShortChunkData), ("pub-weftwise/pub/image/riff.errShortChunkHeader", laid_pub_weftwise_pub_image_riff_errShortChunkHeader)] }
def FnRiffCutsSaid : Prop := fnRiffCutsRow.holds Tryd.pinned (OpenSpec.ofChange fnRiffCutsSpec)

/-- ITS FALSE NEIGHBOUR: 'it returns false'. Refute it at one input. -/
def fnRiffCutsWrong : ChangeSpec := { name := "fnRiffCuts", fn := fun _ => fun
  | [d1, d2, d3] => { results := [.lit (.bool false)], args := [d1, d2, d3] }
  | _ => none }
def FnRiffCutsWrongFalsely : Prop := fnRiffCutsRow.holds Tryd.pinned (OpenSpec.ofChange fnRiffCutsWrong)

/-- 'laws.FnRiffHeads': WHATEVER THE INPUT: true; the input reads as it did. -/
def fnRiffHeadsSpec : ChangeSpec := { name := "fnRiffHeads", fn := fun _ => fun
  | [d1, d2] => { results := [.lit (.bool true)], args := [d1, d2] }
  | _ => none }
def fnRiffHeadsRow : OpenClaim := { program := "ythipghkhdlnfiaadoor", sum := "3e9d111db8f086447148885803551c8977bb9bc0d673c993b1091442b9c3da55", func := "pub-weftwise/laws.FnRiffHeads", spec := "fnRiffHeads", unfollowed := true, recurses := true, named := ["io.EOF", "io.ErrUnexpectedEOF", "pub-weftwise/pub/image/riff.errMissingRIFFChunkHeader", "io.ErrShortBuffer", "pub-weftwise/pub/image/riff.errShortChunkData", "pub-weftwise/pub/image/riff.errListSubchunkTooLong", "pub-weftwise/pub/image/riff.errMissingPaddingByte", "pub-weftwise/pub/image/riff.errShortChunkHeader", "io.errInvalidWrite", "io.ErrShortWrite"], apart := false, laid := [("io.ErrShortWrite", laid_io_ErrShortWrite), ("io.errInvalidWrite", laid_io_errInvalidWrite), ("io.ErrShortBuffer", laid_io_ErrShortBuffer), ("io.EOF", laid_io_EOF), ("io.ErrUnexpectedEOF", laid_io_ErrUnexpectedEOF), ("pub-weftwise/pub/image/riff.errMissingPaddingByte", laid_pub_weftwise_pub_image_riff_errMissingPaddingByte), ("pub-weftwise/pub/image/riff.errMissingRIFFChunkHeader", laid_pub_weftwise_pub_image_riff_errMissingRIFFChunkHeader), ("pub-weftwise/pub/image/riff.errListSubchunkTooLong", laid_pub_weftwise_pub_image_riff_errListSubchunkTooLong), ("pub-weftwise/pub/image/riff.errShortChunkData", laid_pub_weftwise_pub_image_riff_errShortChunkData), ("pub-weftwise/pub/image/riff.errShortChunkHeader", laid_pub_weftwise_pub_image_riff_errShortChunkHeader)] }
def FnRiffHeadsSaid : Prop := fnRiffHeadsRow.holds Tryd.pinned (OpenSpec.ofChange fnRiffHeadsSpec)

/-- ITS FALSE NEIGHBOUR: 'it returns false'. Refute it at one input. -/
def fnRiffHeadsWrong : ChangeSpec := { name := "fnRiffHeads", fn := fun _ => fun
  | [d1, d2] => { results := [.lit (.bool false)], args := [d1, d2] }
  | _ => none }
def FnRiffHeadsWrongFalsely : Prop := fnRiffHeadsRow.holds Tryd.pinned (OpenSpec.ofChange fnRiffHeadsWrong)

/-- 'laws.FnRiffSkips': WHATEVER THE INPUT: true; the input reads as it did. -/
def fnRiffSkipsSpec : ChangeSpec := { name := "fnRiffSkips", fn := fun _ => fun
  | [d1, d2, d3, d4] => { results := [.lit (.bool true)], args := [d1, d2, d3, d4] }
  | _ => none }
def fnRiffSkipsRow : OpenClaim := { program := "ythipghkhdlnfiaadoor", sum := "3e9d111db8f086447148885803551c8977bb9bc0d673c993b1091442b9c3da55", func := "pub-weftwise/laws.FnRiffSkips", spec := "fnRiffSkips", unfollowed := true, recurses := true, named := ["io.EOF", "io.ErrUnexpectedEOF", "pub-weftwise/pub/image/riff.errMissingRIFFChunkHeader", "io.ErrShortBuffer", "pub-weftwise/pub/image/riff.errShortChunkData", "pub-weftwise/pub/image/riff.errListSubchunkTooLong", "pub-weftwise/pub/image/riff.errMissingPaddingByte", "pub-weftwise/pub/image/riff.errShortChunkHeader", "io.errInvalidWrite", "io.ErrShortWrite"], apart := false, laid := [("io.ErrShortWrite", laid_io_ErrShortWrite), ("io.errInvalidWrite", laid_io_errInvalidWrite), ("io.ErrShortBuffer", laid_io_ErrShortBuffer), ("io.EOF", laid_io_EOF), ("io.ErrUnexpectedEOF", laid_io_ErrUnexpectedEOF), ("pub-weftwise/pub/image/riff.errMissingPaddingByte", laid_pub_weftwise_pub_image_riff_errMissingPaddingByte), ("pub-weftwise/pub/image/riff.errMissingRIFFChunkHeader", laid_pub_weftwise_pub_image_riff_errMissingRIFFChunkHeader), ("pub-weftwise/pub/image/riff.errListSubchunkTooLong", laid_pub_weftwise_pub_image_riff_errListSubchunkTooLong), ("pub-weftwise/pub/image/riff.errShortChunkData", laid_pub_weftwise_pub_image_riff_errShortChunkData), ("pub-weftwise/pub/image/riff.errShortChunkHeader", laid_pub_weftwise_pub_image_riff_errShortChunkHeader)] }
def FnRiffSkipsSaid : Prop := fnRiffSkipsRow.holds Tryd.pinned (OpenSpec.ofChange fnRiffSkipsSpec)

/-- ITS FALSE NEIGHBOUR: 'it returns false'. Refute it at one input. -/
def fnRiffSkipsWrong : ChangeSpec := { name := "fnRiffSkips", fn := fun _ => fun
  | [d1, d2, d3, d4] => { results := [.lit (.bool false)], args := [d1, d2, d3, d4] }
  | _ => none }
def FnRiffSkipsWrongFalsely : Prop := fnRiffSkipsRow.holds Tryd.pinned (OpenSpec.ofChange fnRiffSkipsWrong)

/-- 'laws.FnRiffTree': WHATEVER THE INPUT: true; the input reads as it did. -/
def fnRiffTreeSpec : ChangeSpec := { name := "fnRiffTree", fn := fun _ => fun
  | [d1, d2, d3] => { results := [.lit (.bool true)], args := [d1, d2, d3] }
  | _ => none }
def fnRiffTreeRow : OpenClaim := { program := "ythipghkhdlnfiaadoor", sum := "3e9d111db8f086447148885803551c8977bb9bc0d673c993b1091442b9c3da55", func := "pub-weftwise/laws.FnRiffTree", spec := "fnRiffTree", unfollowed := true, recurses := true, named := ["io.EOF", "io.ErrUnexpectedEOF", "pub-weftwise/pub/image/riff.errMissingRIFFChunkHeader", "io.ErrShortBuffer", "pub-weftwise/pub/image/riff.errShortChunkData", "pub-weftwise/pub/image/riff.errListSubchunkTooLong", "pub-weftwise/pub/image/riff.errMissingPaddingByte", "pub-weftwise/pub/image/riff.errShortChunkHeader", "io.errInvalidWrite", "io.ErrShortWrite"], apart := false, laid := [("io.ErrShortWrite", laid_io_ErrShortWrite), ("io.errInvalidWrite", laid_io_errInvalidWrite), ("io.ErrShortBuffer", laid_io_ErrShortBuffer), ("io.EOF", laid_io_EOF), ("io.ErrUnexpectedEOF", laid_io_ErrUnexpectedEOF), ("pub-weftwise/pub/image/riff.errMissingPaddingByte", laid_pub_weftwise_pub_image_riff_errMissingPaddingByte), ("pub-weftwise/pub/image/riff.errMissingRIFFChunkHeader", laid_pub_weftwise_pub_image_riff_errMissingRIFFChunkHeader), ("pub-weftwise/pub/image/riff.errListSubchunkTooLong", laid_pub_weftwise_pub_image_riff_errListSubchunkTooLong), ("pub-weftwise/pub/image/riff.errShortChunkData", laid_pub_weftwise_pub_image_riff_errShortChunkData), ("pub-weftwise/pub/image/riff.errShortChunkHeader", laid_pub_weftwise_pub_image_riff_errShortChunkHeader)] }
def FnRiffTreeSaid : Prop := fnRiffTreeRow.holds Tryd.pinned (OpenSpec.ofChange fnRiffTreeSpec)

/-- ITS FALSE NEIGHBOUR: 'it returns false'. Refute it at one input. -/
def fnRiffTreeWrong : ChangeSpec := { name := "fnRiffTree", fn := fun _ => fun
  | [d1, d2, d3] => { results := [.lit (.bool false)], args := [d1, d2, d3] }
  | _ => none }
def FnRiffTreeWrongFalsely : Prop := fnRiffTreeRow.holds Tryd.pinned (OpenSpec.ofChange fnRiffTreeWrong)

/- THE SECOND FORM. 'bulk': how many values and letters a reading holds, each counted each time it is reached (what is shared counts as often as it is met; a slice's spare places count too). A statement '..UptoSaid' is the law's where the arguments, and the package variables that the reading takes, are together of bulk at most 1048576: NARROWER than '..Said'. Prove '..Said' where nothing that the law and all that it calls make is longer than what came in: it says more and counts as full. Else prove '..UptoSaid'. A law counts once. -/
mutual
def uptoBulk {H : Type} : DataW H → Nat
  | .lit (.string bytes) => bytes.length + 1
  | .lit _ => 1
  | .nil => 1
  | .ptr d => uptoBulk d + 1
  | .slice elems spare => uptoBulkAll elems + uptoBulkAll spare + 1
  | .agg parts => uptoBulkAll parts + 1
  | .iface _ d => uptoBulk d + 1
  | .map entries => uptoBulkEntries entries + 1
  | .held _ => 1
def uptoBulkAll {H : Type} : List (DataW H) → Nat
  | [] => 0
  | d :: r => uptoBulk d + uptoBulkAll r
def uptoBulkEntries {H : Type} : List (Lit × DataW H) → Nat
  | [] => 0
  | x :: r => uptoBulkEntry x + uptoBulkEntries r
def uptoBulkEntry {H : Type} : Lit × DataW H → Nat
  | (.string bytes, d) => bytes.length + uptoBulk d + 1
  | (_, d) => uptoBulk d + 1
 end
def uptoSmall : (H : Type) → List (DataW H) → Bool := fun _ ds => decide (uptoBulkAll ds ≤ 1048576)
def OpenSpec.upto (s : _root_.Go.ChangeSpec) : _root_.Go.OpenSpec := { _root_.Go.OpenSpec.ofChange s with cond := some uptoSmall }

/-- 'laws.FnRiffCuts', WHERE WHAT IT READS IS OF BULK AT MOST 1048576: true; the input reads as it did. -/
def fnRiffCutsUptoRow : OpenClaim := { program := "ythipghkhdlnfiaadoor", sum := "3e9d111db8f086447148885803551c8977bb9bc0d673c993b1091442b9c3da55", func := "pub-weftwise/laws.FnRiffCuts", spec := "fnRiffCuts", unfollowed := true, recurses := true, named := ["io.EOF", "io.ErrUnexpectedEOF", "pub-weftwise/pub/image/riff.errMissingRIFFChunkHeader", "io.ErrShortBuffer", "pub-weftwise/pub/image/riff.errShortChunkData", "pub-weftwise/pub/image/riff.errListSubchunkTooLong", "pub-weftwise/pub/image/riff.errMissingPaddingByte", "pub-weftwise/pub/image/riff.errShortChunkHeader", "io.errInvalidWrite", "io.ErrShortWrite"], apart := false, laid := [("io.ErrShortWrite", laid_io_ErrShortWrite), ("io.errInvalidWrite", laid_io_errInvalidWrite), ("io.ErrShortBuffer", laid_io_ErrShortBuffer), ("io.EOF", laid_io_EOF), ("io.ErrUnexpectedEOF", laid_io_ErrUnexpectedEOF), ("pub-weftwise/pub/image/riff.errMissingPaddingByte", laid_pub_weftwise_pub_image_riff_errMissingPaddingByte), ("pub-weftwise/pub/image/riff.errMissingRIFFChunkHeader", laid_pub_weftwise_pub_image_riff_errMissingRIFFChunkHeader), ("pub-weftwise/pub/image/riff.errListSubchunkTooLong", laid_pub_weftwise_pub_image_riff_errListSubchunkTooLong), ("pub-weftwise/pub/image/riff.errShortChunkData", laid_pub_weftwise_pub_image_riff_errShortChunkData), ("pub-weftwise/pub/image/riff.errShortChunkHeader", laid_pub_weftwise_pub_image_riff_errShortChunkHeader)], narrowed := true }
def FnRiffCutsUptoSaid : Prop := fnRiffCutsUptoRow.holds Tryd.pinned (OpenSpec.upto fnRiffCutsSpec)

/-- 'laws.FnRiffHeads', WHERE WHAT IT READS IS OF BULK AT MOST 1048576: true; the input reads as it did. -/
def fnRiffHeadsUptoRow : OpenClaim := { program := "ythipghkhdlnfiaadoor", sum := "3e9d111db8f086447148885803551c8977bb9bc0d673c993b1091442b9c3da55", func := "pub-weftwise/laws.FnRiffHeads", spec := "fnRiffHeads", unfollowed := true, recurses := true, named := ["io.EOF", "io.ErrUnexpectedEOF", "pub-weftwise/pub/image/riff.errMissingRIFFChunkHeader", "io.ErrShortBuffer", "pub-weftwise/pub/image/riff.errShortChunkData", "pub-weftwise/pub/image/riff.errListSubchunkTooLong", "pub-weftwise/pub/image/riff.errMissingPaddingByte", "pub-weftwise/pub/image/riff.errShortChunkHeader", "io.errInvalidWrite", "io.ErrShortWrite"], apart := false, laid := [("io.ErrShortWrite", laid_io_ErrShortWrite), ("io.errInvalidWrite", laid_io_errInvalidWrite), ("io.ErrShortBuffer", laid_io_ErrShortBuffer), ("io.EOF", laid_io_EOF), ("io.ErrUnexpectedEOF", laid_io_ErrUnexpectedEOF), ("pub-weftwise/pub/image/riff.errMissingPaddingByte", laid_pub_weftwise_pub_image_riff_errMissingPaddingByte), ("pub-weftwise/pub/image/riff.errMissingRIFFChunkHeader", laid_pub_weftwise_pub_image_riff_errMissingRIFFChunkHeader), ("pub-weftwise/pub/image/riff.errListSubchunkTooLong", laid_pub_weftwise_pub_image_riff_errListSubchunkTooLong), ("pub-weftwise/pub/image/riff.errShortChunkData", laid_pub_weftwise_pub_image_riff_errShortChunkData), ("pub-weftwise/pub/image/riff.errShortChunkHeader", laid_pub_weftwise_pub_image_riff_errShortChunkHeader)], narrowed := true }
def FnRiffHeadsUptoSaid : Prop := fnRiffHeadsUptoRow.holds Tryd.pinned (OpenSpec.upto fnRiffHeadsSpec)

/-- 'laws.FnRiffSkips', WHERE WHAT IT READS IS OF BULK AT MOST 1048576: true; the input reads as it did. -/
def fnRiffSkipsUptoRow : OpenClaim := { program := "ythipghkhdlnfiaadoor", sum := "3e9d111db8f086447148885803551c8977bb9bc0d673c993b1091442b9c3da55", func := "pub-weftwise/laws.FnRiffSkips", spec := "fnRiffSkips", unfollowed := true, recurses := true, named := ["io.EOF", "io.ErrUnexpectedEOF", "pub-weftwise/pub/image/riff.errMissingRIFFChunkHeader", "io.ErrShortBuffer", "pub-weftwise/pub/image/riff.errShortChunkData", "pub-weftwise/pub/image/riff.errListSubchunkTooLong", "pub-weftwise/pub/image/riff.errMissingPaddingByte", "pub-weftwise/pub/image/riff.errShortChunkHeader", "io.errInvalidWrite", "io.ErrShortWrite"], apart := false, laid := [("io.ErrShortWrite", laid_io_ErrShortWrite), ("io.errInvalidWrite", laid_io_errInvalidWrite), ("io.ErrShortBuffer", laid_io_ErrShortBuffer), ("io.EOF", laid_io_EOF), ("io.ErrUnexpectedEOF", laid_io_ErrUnexpectedEOF), ("pub-weftwise/pub/image/riff.errMissingPaddingByte", laid_pub_weftwise_pub_image_riff_errMissingPaddingByte), ("pub-weftwise/pub/image/riff.errMissingRIFFChunkHeader", laid_pub_weftwise_pub_image_riff_errMissingRIFFChunkHeader), ("pub-weftwise/pub/image/riff.errListSubchunkTooLong", laid_pub_weftwise_pub_image_riff_errListSubchunkTooLong), ("pub-weftwise/pub/image/riff.errShortChunkData", laid_pub_weftwise_pub_image_riff_errShortChunkData), ("pub-weftwise/pub/image/riff.errShortChunkHeader", laid_pub_weftwise_pub_image_riff_errShortChunkHeader)], narrowed := true }
def FnRiffSkipsUptoSaid : Prop := fnRiffSkipsUptoRow.holds Tryd.pinned (OpenSpec.upto fnRiffSkipsSpec)

/-- 'laws.FnRiffTree', WHERE WHAT IT READS IS OF BULK AT MOST 1048576: true; the input reads as it did. -/
def fnRiffTreeUptoRow : OpenClaim := { program := "ythipghkhdlnfiaadoor", sum := "3e9d111db8f086447148885803551c8977bb9bc0d673c993b1091442b9c3da55", func := "pub-weftwise/laws.FnRiffTree", spec := "fnRiffTree", unfollowed := true, recurses := true, named := ["io.EOF", "io.ErrUnexpectedEOF", "pub-weftwise/pub/image/riff.errMissingRIFFChunkHeader", "io.ErrShortBuffer", "pub-weftwise/pub/image/riff.errShortChunkData", "pub-weftwise/pub/image/riff.errListSubchunkTooLong", "pub-weftwise/pub/image/riff.errMissingPaddingByte", "pub-weftwise/pub/image/riff.errShortChunkHeader", "io.errInvalidWrite", "io.ErrShortWrite"], apart := false, laid := [("io.ErrShortWrite", laid_io_ErrShortWrite), ("io.errInvalidWrite", laid_io_errInvalidWrite), ("io.ErrShortBuffer", laid_io_ErrShortBuffer), ("io.EOF", laid_io_EOF), ("io.ErrUnexpectedEOF", laid_io_ErrUnexpectedEOF), ("pub-weftwise/pub/image/riff.errMissingPaddingByte", laid_pub_weftwise_pub_image_riff_errMissingPaddingByte), ("pub-weftwise/pub/image/riff.errMissingRIFFChunkHeader", laid_pub_weftwise_pub_image_riff_errMissingRIFFChunkHeader), ("pub-weftwise/pub/image/riff.errListSubchunkTooLong", laid_pub_weftwise_pub_image_riff_errListSubchunkTooLong), ("pub-weftwise/pub/image/riff.errShortChunkData", laid_pub_weftwise_pub_image_riff_errShortChunkData), ("pub-weftwise/pub/image/riff.errShortChunkHeader", laid_pub_weftwise_pub_image_riff_errShortChunkHeader)], narrowed := true }
def FnRiffTreeUptoSaid : Prop := fnRiffTreeUptoRow.holds Tryd.pinned (OpenSpec.upto fnRiffTreeSpec)

end Rows
end Go.Proofs.YthipghkhdlnfiaaDoor
