/-
  DERIVED. GIVEN WITH THE SEED: THE CARDS: each row of YtmdijdoaijnpaaaDoorRows.lean that lists a variable, with what it lists TIED to the program's text (the seventh form; the later family's looks); each row that meets fmt, with fmt's text TOLD by the authors' own Lean function (tested against real Go, not proved from fmt's source: count such statements apart). THE CARD IS WHAT COUNTS. Prove the row's statement (the work); the ties are given (YtmdijdoaijnpaaaDoorTie.lean); close each card by the builder's one call (the guide's Derived/Test/ToyasCard.lean, 'card_holds'). Laid BY PROGRAM, IN A SANDBOX (cutbox-door.mjs). By AI agents, Wed Nov 11 2026. No macro, syntax, notation, axiom, sorry.
-/
import Derived.Test.YtmdijdoaijnpaaaDoorRows
import GoSem.ClaimSeven
namespace Go.Proofs.YtmdijdoaijnpaaaDoor
namespace Rows

/-- THE TIED CARD OF 'laws.FnPredict16'. -/
def fnPredict16Card : Claim7 := { stood := { row := fnPredict16Row, standIns := [], harness := (true, "85a87c1b24efe66956595b46cacc948ecd82f945424898b8429f9ece2741590f"), looks := false }, kinds := [], alts := [], laidByText := true, laidKinds := [.data, .data], laidTests := true, laidLooks := .later }
def FnPredict16CardSaid : Prop := Claim7.holds Tryd.pinned (.plain (OpenSpec.ofChange fnPredict16Spec)) fnPredict16Card

/-- THE TIED CARD OF 'laws.FnFilterNormal'. -/
def fnFilterNormalCard : Claim7 := { stood := { row := fnFilterNormalRow, standIns := [], harness := (true, "85a87c1b24efe66956595b46cacc948ecd82f945424898b8429f9ece2741590f"), looks := false }, kinds := [], alts := [], laidByText := true, laidKinds := [.data, .data], laidTests := true, laidLooks := .later }
def FnFilterNormalCardSaid : Prop := Claim7.holds Tryd.pinned (.plain (OpenSpec.ofChange fnFilterNormalSpec)) fnFilterNormalCard

/-- THE TIED CARD OF 'laws.FnFilterFlat'. -/
def fnFilterFlatCard : Claim7 := { stood := { row := fnFilterFlatRow, standIns := [], harness := (true, "85a87c1b24efe66956595b46cacc948ecd82f945424898b8429f9ece2741590f"), looks := false }, kinds := [], alts := [], laidByText := true, laidKinds := [.data, .data], laidTests := true, laidLooks := .later }
def FnFilterFlatCardSaid : Prop := Claim7.holds Tryd.pinned (.plain (OpenSpec.ofChange fnFilterFlatSpec)) fnFilterFlatCard

/-- THE TIED CARD OF 'laws.FnPredict4'. -/
def fnPredict4Card : Claim7 := { stood := { row := fnPredict4Row, standIns := [], harness := (true, "85a87c1b24efe66956595b46cacc948ecd82f945424898b8429f9ece2741590f"), looks := false }, kinds := [], alts := [], laidByText := true, laidKinds := [.data, .data], laidTests := true, laidLooks := .later }
def FnPredict4CardSaid : Prop := Claim7.holds Tryd.pinned (.plain (OpenSpec.ofChange fnPredict4Spec)) fnPredict4Card

/-- THE SECOND FORM's CARD OF 'laws.FnPredict16'. -/
def fnPredict16UptoCard : Claim7 := { stood := { row := fnPredict16UptoRow, standIns := [], harness := (true, "85a87c1b24efe66956595b46cacc948ecd82f945424898b8429f9ece2741590f"), looks := false }, kinds := [], alts := [], laidByText := true, laidKinds := [.data, .data], laidTests := true, laidLooks := .later }
def FnPredict16UptoCardSaid : Prop := Claim7.holds Tryd.pinned (.plain (OpenSpec.upto fnPredict16Spec)) fnPredict16UptoCard

/-- THE SECOND FORM's CARD OF 'laws.FnFilterNormal'. -/
def fnFilterNormalUptoCard : Claim7 := { stood := { row := fnFilterNormalUptoRow, standIns := [], harness := (true, "85a87c1b24efe66956595b46cacc948ecd82f945424898b8429f9ece2741590f"), looks := false }, kinds := [], alts := [], laidByText := true, laidKinds := [.data, .data], laidTests := true, laidLooks := .later }
def FnFilterNormalUptoCardSaid : Prop := Claim7.holds Tryd.pinned (.plain (OpenSpec.upto fnFilterNormalSpec)) fnFilterNormalUptoCard

/-- THE SECOND FORM's CARD OF 'laws.FnFilterFlat'. -/
def fnFilterFlatUptoCard : Claim7 := { stood := { row := fnFilterFlatUptoRow, standIns := [], harness := (true, "85a87c1b24efe66956595b46cacc948ecd82f945424898b8429f9ece2741590f"), looks := false }, kinds := [], alts := [], laidByText := true, laidKinds := [.data, .data], laidTests := true, laidLooks := .later }
def FnFilterFlatUptoCardSaid : Prop := Claim7.holds Tryd.pinned (.plain (OpenSpec.upto fnFilterFlatSpec)) fnFilterFlatUptoCard

/-- THE SECOND FORM's CARD OF 'laws.FnPredict4'. -/
def fnPredict4UptoCard : Claim7 := { stood := { row := fnPredict4UptoRow, standIns := [], harness := (true, "85a87c1b24efe66956595b46cacc948ecd82f945424898b8429f9ece2741590f"), looks := false }, kinds := [], alts := [], laidByText := true, laidKinds := [.data, .data], laidTests := true, laidLooks := .later }
def FnPredict4UptoCardSaid : Prop := Claim7.holds Tryd.pinned (.plain (OpenSpec.upto fnPredict4Spec)) fnPredict4UptoCard
end Rows
end Go.Proofs.YtmdijdoaijnpaaaDoor
