/-
  DERIVED. GIVEN WITH THE SEED: THE CARDS: each row of YthmkmemocjnleaaDoorRows.lean that lists a variable, with what it lists TIED to the program's text (the seventh form; the later family's looks); each row that meets fmt, with fmt's text TOLD by the authors' own Lean function (tested against real Go, not proved from fmt's source: count such statements apart). THE CARD IS WHAT COUNTS. Prove the row's statement (the work); the ties are given (YthmkmemocjnleaaDoorTie.lean); close each card by the builder's one call (the guide's Derived/Test/ToyasCard.lean, 'card_holds'). Laid BY PROGRAM, IN A SANDBOX (cutbox-door.mjs). By AI agents, Wed Nov 11 2026. No macro, syntax, notation, axiom, sorry.
-/
import Derived.Test.YthmkmemocjnleaaDoorRows
import GoSem.ClaimSeven
namespace Go.Proofs.YthmkmemocjnleaaDoor
namespace Rows

/-- THE TIED CARD OF 'laws.FnBools'. -/
def fnBoolsCard : Claim7 := { stood := { row := fnBoolsRow, standIns := [], harness := (true, "ab98e63efc969718e900e476c3bc012b820d9ed065889dcffbe2759b5dedde28"), looks := false }, kinds := [], alts := [], laidByText := true, laidKinds := [.data, .data], laidTests := true, laidLooks := .later }
def FnBoolsCardSaid : Prop := Claim7.holds Tryd.pinned (.plain (OpenSpec.ofChange fnBoolsSpec)) fnBoolsCard

/-- THE TIED CARD OF 'laws.FnLiterals'. -/
def fnLiteralsCard : Claim7 := { stood := { row := fnLiteralsRow, standIns := [], harness := (true, "ab98e63efc969718e900e476c3bc012b820d9ed065889dcffbe2759b5dedde28"), looks := false }, kinds := [], alts := [], laidByText := true, laidKinds := [.data, .data], laidTests := true, laidLooks := .later }
def FnLiteralsCardSaid : Prop := Claim7.holds Tryd.pinned (.plain (OpenSpec.ofChange fnLiteralsSpec)) fnLiteralsCard

/-- THE TIED CARD OF 'laws.FnEdge'. -/
def fnEdgeCard : Claim7 := { stood := { row := fnEdgeRow, standIns := [], harness := (true, "ab98e63efc969718e900e476c3bc012b820d9ed065889dcffbe2759b5dedde28"), looks := false }, kinds := [], alts := [], laidByText := true, laidKinds := [.data, .data], laidTests := true, laidLooks := .later }
def FnEdgeCardSaid : Prop := Claim7.holds Tryd.pinned (.plain (OpenSpec.ofChange fnEdgeSpec)) fnEdgeCard

/-- THE TIED CARD OF 'laws.FnSegments'. -/
def fnSegmentsCard : Claim7 := { stood := { row := fnSegmentsRow, standIns := [], harness := (true, "ab98e63efc969718e900e476c3bc012b820d9ed065889dcffbe2759b5dedde28"), looks := false }, kinds := [], alts := [], laidByText := true, laidKinds := [.data, .data], laidTests := true, laidLooks := .later }
def FnSegmentsCardSaid : Prop := Claim7.holds Tryd.pinned (.plain (OpenSpec.ofChange fnSegmentsSpec)) fnSegmentsCard

/-- THE TIED CARD OF 'laws.FnInverseDC'. -/
def fnInverseDCCard : Claim7 := { stood := { row := fnInverseDCRow, standIns := [], harness := (true, "ab98e63efc969718e900e476c3bc012b820d9ed065889dcffbe2759b5dedde28"), looks := false }, kinds := [], alts := [], laidByText := true, laidKinds := [.data, .data], laidTests := true, laidLooks := .later }
def FnInverseDCCardSaid : Prop := Claim7.holds Tryd.pinned (.plain (OpenSpec.ofChange fnInverseDCSpec)) fnInverseDCCard

/-- THE TIED CARD OF 'laws.FnFilters'. -/
def fnFiltersCard : Claim7 := { stood := { row := fnFiltersRow, standIns := [], harness := (true, "ab98e63efc969718e900e476c3bc012b820d9ed065889dcffbe2759b5dedde28"), looks := false }, kinds := [], alts := [], laidByText := true, laidKinds := [.data, .data], laidTests := true, laidLooks := .later }
def FnFiltersCardSaid : Prop := Claim7.holds Tryd.pinned (.plain (OpenSpec.ofChange fnFiltersSpec)) fnFiltersCard

/-- THE SECOND FORM's CARD OF 'laws.FnBools'. -/
def fnBoolsUptoCard : Claim7 := { stood := { row := fnBoolsUptoRow, standIns := [], harness := (true, "ab98e63efc969718e900e476c3bc012b820d9ed065889dcffbe2759b5dedde28"), looks := false }, kinds := [], alts := [], laidByText := true, laidKinds := [.data, .data], laidTests := true, laidLooks := .later }
def FnBoolsUptoCardSaid : Prop := Claim7.holds Tryd.pinned (.plain (OpenSpec.upto fnBoolsSpec)) fnBoolsUptoCard

/-- THE SECOND FORM's CARD OF 'laws.FnLiterals'. -/
def fnLiteralsUptoCard : Claim7 := { stood := { row := fnLiteralsUptoRow, standIns := [], harness := (true, "ab98e63efc969718e900e476c3bc012b820d9ed065889dcffbe2759b5dedde28"), looks := false }, kinds := [], alts := [], laidByText := true, laidKinds := [.data, .data], laidTests := true, laidLooks := .later }
def FnLiteralsUptoCardSaid : Prop := Claim7.holds Tryd.pinned (.plain (OpenSpec.upto fnLiteralsSpec)) fnLiteralsUptoCard

/-- THE SECOND FORM's CARD OF 'laws.FnEdge'. -/
def fnEdgeUptoCard : Claim7 := { stood := { row := fnEdgeUptoRow, standIns := [], harness := (true, "ab98e63efc969718e900e476c3bc012b820d9ed065889dcffbe2759b5dedde28"), looks := false }, kinds := [], alts := [], laidByText := true, laidKinds := [.data, .data], laidTests := true, laidLooks := .later }
def FnEdgeUptoCardSaid : Prop := Claim7.holds Tryd.pinned (.plain (OpenSpec.upto fnEdgeSpec)) fnEdgeUptoCard

/-- THE SECOND FORM's CARD OF 'laws.FnSegments'. -/
def fnSegmentsUptoCard : Claim7 := { stood := { row := fnSegmentsUptoRow, standIns := [], harness := (true, "ab98e63efc969718e900e476c3bc012b820d9ed065889dcffbe2759b5dedde28"), looks := false }, kinds := [], alts := [], laidByText := true, laidKinds := [.data, .data], laidTests := true, laidLooks := .later }
def FnSegmentsUptoCardSaid : Prop := Claim7.holds Tryd.pinned (.plain (OpenSpec.upto fnSegmentsSpec)) fnSegmentsUptoCard

/-- THE SECOND FORM's CARD OF 'laws.FnInverseDC'. -/
def fnInverseDCUptoCard : Claim7 := { stood := { row := fnInverseDCUptoRow, standIns := [], harness := (true, "ab98e63efc969718e900e476c3bc012b820d9ed065889dcffbe2759b5dedde28"), looks := false }, kinds := [], alts := [], laidByText := true, laidKinds := [.data, .data], laidTests := true, laidLooks := .later }
def FnInverseDCUptoCardSaid : Prop := Claim7.holds Tryd.pinned (.plain (OpenSpec.upto fnInverseDCSpec)) fnInverseDCUptoCard

/-- THE SECOND FORM's CARD OF 'laws.FnFilters'. -/
def fnFiltersUptoCard : Claim7 := { stood := { row := fnFiltersUptoRow, standIns := [], harness := (true, "ab98e63efc969718e900e476c3bc012b820d9ed065889dcffbe2759b5dedde28"), looks := false }, kinds := [], alts := [], laidByText := true, laidKinds := [.data, .data], laidTests := true, laidLooks := .later }
def FnFiltersUptoCardSaid : Prop := Claim7.holds Tryd.pinned (.plain (OpenSpec.upto fnFiltersSpec)) fnFiltersUptoCard
end Rows
end Go.Proofs.YthmkmemocjnleaaDoor
