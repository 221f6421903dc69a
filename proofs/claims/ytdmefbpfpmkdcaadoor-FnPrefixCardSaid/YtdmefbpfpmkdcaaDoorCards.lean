/-
  DERIVED. GIVEN WITH THE SEED: THE CARDS: each row of YtdmefbpfpmkdcaaDoorRows.lean that lists a variable, with what it lists TIED to the program's text (the seventh form; the later family's looks); each row that meets fmt, with fmt's text TOLD by the authors' own Lean function (tested against real Go, not proved from fmt's source: count such statements apart). THE CARD IS WHAT COUNTS. Prove the row's statement (the work); the ties are given (YtdmefbpfpmkdcaaDoorTie.lean); close each card by the builder's one call (the guide's Derived/Test/ToyasCard.lean, 'card_holds'). Laid BY PROGRAM, IN A SANDBOX (cutbox-door.mjs). By AI agents, Wed Nov 11 2026. No macro, syntax, notation, axiom, sorry.
-/
import Derived.Test.YtdmefbpfpmkdcaaDoorRows
import GoSem.ClaimSeven
namespace Go.Proofs.YtdmefbpfpmkdcaaDoor
namespace Rows

/-- THE TIED CARD OF 'laws.FnReadWritten'. -/
def fnReadWrittenCard : Claim7 := { stood := { row := fnReadWrittenRow, standIns := [], harness := (true, "4c67975935ea7b624a3fd38b00c1404c1073287fb8c3868e622bc7645f66583a"), looks := true }, kinds := [], alts := [], laidByText := true, laidKinds := [.sentinel, .sentinel], laidTests := true, laidLooks := .later }
def FnReadWrittenCardSaid : Prop := Claim7.holds Tryd.pinned (.plain (OpenSpec.ofChange fnReadWrittenSpec)) fnReadWrittenCard

/-- THE TIED CARD OF 'laws.FnParamWritten'. -/
def fnParamWrittenCard : Claim7 := { stood := { row := fnParamWrittenRow, standIns := [], harness := (true, "4c67975935ea7b624a3fd38b00c1404c1073287fb8c3868e622bc7645f66583a"), looks := true }, kinds := [], alts := [], laidByText := true, laidKinds := [.sentinel, .sentinel], laidTests := true, laidLooks := .later }
def FnParamWrittenCardSaid : Prop := Claim7.holds Tryd.pinned (.plain (OpenSpec.ofChange fnParamWrittenSpec)) fnParamWrittenCard

/-- THE TIED CARD OF 'laws.FnCodesBegin'. -/
def fnCodesBeginCard : Claim7 := { stood := { row := fnCodesBeginRow, standIns := [], harness := (true, "4c67975935ea7b624a3fd38b00c1404c1073287fb8c3868e622bc7645f66583a"), looks := true }, kinds := [], alts := [], laidByText := true, laidKinds := [.sentinel], laidTests := true, laidLooks := .later }
def FnCodesBeginCardSaid : Prop := Claim7.holds Tryd.pinned (.plain (OpenSpec.ofChange fnCodesBeginSpec)) fnCodesBeginCard

/-- THE TIED CARD OF 'laws.FnSimple'. -/
def fnSimpleCard : Claim7 := { stood := { row := fnSimpleRow, standIns := [], harness := (true, "4c67975935ea7b624a3fd38b00c1404c1073287fb8c3868e622bc7645f66583a"), looks := true }, kinds := [], alts := [], laidByText := true, laidKinds := [.sentinel, .sentinel, .sentinel, .data], laidTests := true, laidLooks := .later }
def FnSimpleCardSaid : Prop := Claim7.holds Tryd.pinned (.plain (OpenSpec.ofChange fnSimpleSpec)) fnSimpleCard

/-- THE TIED CARD OF 'laws.FnSymbolsWritten'. -/
def fnSymbolsWrittenCard : Claim7 := { stood := { row := fnSymbolsWrittenRow, standIns := [], harness := (true, "4c67975935ea7b624a3fd38b00c1404c1073287fb8c3868e622bc7645f66583a"), looks := true }, kinds := [], alts := [], laidByText := true, laidKinds := [.sentinel, .sentinel, .sentinel, .data], laidTests := true, laidLooks := .later }
def FnSymbolsWrittenCardSaid : Prop := Claim7.holds Tryd.pinned (.plain (OpenSpec.ofChange fnSymbolsWrittenSpec)) fnSymbolsWrittenCard

/-- THE TIED CARD OF 'laws.FnPrefix'. -/
def fnPrefixCard : Claim7 := { stood := { row := fnPrefixRow, standIns := [], harness := (true, "4c67975935ea7b624a3fd38b00c1404c1073287fb8c3868e622bc7645f66583a"), looks := true }, kinds := [], alts := [], laidByText := true, laidKinds := [.sentinel, .sentinel, .sentinel, .sentinel, .data, .data, .data, .data], laidTests := true, laidLooks := .later }
def FnPrefixCardSaid : Prop := Claim7.holds Tryd.pinned (.plain (OpenSpec.ofChange fnPrefixSpec)) fnPrefixCard

/-- THE SECOND FORM's CARD OF 'laws.FnReadWritten'. -/
def fnReadWrittenUptoCard : Claim7 := { stood := { row := fnReadWrittenUptoRow, standIns := [], harness := (true, "4c67975935ea7b624a3fd38b00c1404c1073287fb8c3868e622bc7645f66583a"), looks := true }, kinds := [], alts := [], laidByText := true, laidKinds := [.sentinel, .sentinel], laidTests := true, laidLooks := .later }
def FnReadWrittenUptoCardSaid : Prop := Claim7.holds Tryd.pinned (.plain (OpenSpec.upto fnReadWrittenSpec)) fnReadWrittenUptoCard

/-- THE SECOND FORM's CARD OF 'laws.FnParamWritten'. -/
def fnParamWrittenUptoCard : Claim7 := { stood := { row := fnParamWrittenUptoRow, standIns := [], harness := (true, "4c67975935ea7b624a3fd38b00c1404c1073287fb8c3868e622bc7645f66583a"), looks := true }, kinds := [], alts := [], laidByText := true, laidKinds := [.sentinel, .sentinel], laidTests := true, laidLooks := .later }
def FnParamWrittenUptoCardSaid : Prop := Claim7.holds Tryd.pinned (.plain (OpenSpec.upto fnParamWrittenSpec)) fnParamWrittenUptoCard

/-- THE SECOND FORM's CARD OF 'laws.FnCodesBegin'. -/
def fnCodesBeginUptoCard : Claim7 := { stood := { row := fnCodesBeginUptoRow, standIns := [], harness := (true, "4c67975935ea7b624a3fd38b00c1404c1073287fb8c3868e622bc7645f66583a"), looks := true }, kinds := [], alts := [], laidByText := true, laidKinds := [.sentinel], laidTests := true, laidLooks := .later }
def FnCodesBeginUptoCardSaid : Prop := Claim7.holds Tryd.pinned (.plain (OpenSpec.upto fnCodesBeginSpec)) fnCodesBeginUptoCard

/-- THE SECOND FORM's CARD OF 'laws.FnSimple'. -/
def fnSimpleUptoCard : Claim7 := { stood := { row := fnSimpleUptoRow, standIns := [], harness := (true, "4c67975935ea7b624a3fd38b00c1404c1073287fb8c3868e622bc7645f66583a"), looks := true }, kinds := [], alts := [], laidByText := true, laidKinds := [.sentinel, .sentinel, .sentinel, .data], laidTests := true, laidLooks := .later }
def FnSimpleUptoCardSaid : Prop := Claim7.holds Tryd.pinned (.plain (OpenSpec.upto fnSimpleSpec)) fnSimpleUptoCard

/-- THE SECOND FORM's CARD OF 'laws.FnSymbolsWritten'. -/
def fnSymbolsWrittenUptoCard : Claim7 := { stood := { row := fnSymbolsWrittenUptoRow, standIns := [], harness := (true, "4c67975935ea7b624a3fd38b00c1404c1073287fb8c3868e622bc7645f66583a"), looks := true }, kinds := [], alts := [], laidByText := true, laidKinds := [.sentinel, .sentinel, .sentinel, .data], laidTests := true, laidLooks := .later }
def FnSymbolsWrittenUptoCardSaid : Prop := Claim7.holds Tryd.pinned (.plain (OpenSpec.upto fnSymbolsWrittenSpec)) fnSymbolsWrittenUptoCard

/-- THE SECOND FORM's CARD OF 'laws.FnPrefix'. -/
def fnPrefixUptoCard : Claim7 := { stood := { row := fnPrefixUptoRow, standIns := [], harness := (true, "4c67975935ea7b624a3fd38b00c1404c1073287fb8c3868e622bc7645f66583a"), looks := true }, kinds := [], alts := [], laidByText := true, laidKinds := [.sentinel, .sentinel, .sentinel, .sentinel, .data, .data, .data, .data], laidTests := true, laidLooks := .later }
def FnPrefixUptoCardSaid : Prop := Claim7.holds Tryd.pinned (.plain (OpenSpec.upto fnPrefixSpec)) fnPrefixUptoCard
end Rows
end Go.Proofs.YtdmefbpfpmkdcaaDoor
