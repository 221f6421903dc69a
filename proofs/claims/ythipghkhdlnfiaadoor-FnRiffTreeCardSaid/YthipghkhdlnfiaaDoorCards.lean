/-
  DERIVED. GIVEN WITH THE SEED: THE CARDS: each row of YthipghkhdlnfiaaDoorRows.lean that lists a variable, with what it lists TIED to the program's text (the seventh form; the later family's looks); each row that meets fmt, with fmt's text TOLD by the authors' own Lean function (tested against real Go, not proved from fmt's source: count such statements apart). THE CARD IS WHAT COUNTS. Prove the row's statement (the work); the ties are given (YthipghkhdlnfiaaDoorTie.lean); close each card by the builder's one call (the guide's Derived/Test/ToyasCard.lean, 'card_holds'). Laid BY PROGRAM, IN A SANDBOX (cutbox-door.mjs). By AI agents, Wed Nov 11 2026. No macro, syntax, notation, axiom, sorry.
-/
import Derived.Test.YthipghkhdlnfiaaDoorRows
import GoSem.ClaimSeven
namespace Go.Proofs.YthipghkhdlnfiaaDoor
namespace Rows

/-- THE TIED CARD OF 'laws.FnRiffCuts'. -/
def fnRiffCutsCard : Claim7 := { stood := { row := fnRiffCutsRow, standIns := [], harness := (true, "cbd9e0189deb569dc9eec5d40066bdf76026b82dfa4a4c22fc4772a7d6ae180c"), looks := true }, kinds := [], alts := [], laidByText := true, laidKinds := [.sentinel, .sentinel, .sentinel, .sentinel, .sentinel, .sentinel, .sentinel, .sentinel, .sentinel, .sentinel], laidTests := true, laidLooks := .later }
def FnRiffCutsCardSaid : Prop := Claim7.holds Tryd.pinned (.plain (OpenSpec.ofChange fnRiffCutsSpec)) fnRiffCutsCard

/-- THE TIED CARD OF 'laws.FnRiffHeads'. -/
def fnRiffHeadsCard : Claim7 := { stood := { row := fnRiffHeadsRow, standIns := [], harness := (true, "cbd9e0189deb569dc9eec5d40066bdf76026b82dfa4a4c22fc4772a7d6ae180c"), looks := true }, kinds := [], alts := [], laidByText := true, laidKinds := [.sentinel, .sentinel, .sentinel, .sentinel, .sentinel, .sentinel, .sentinel, .sentinel, .sentinel, .sentinel], laidTests := true, laidLooks := .later }
def FnRiffHeadsCardSaid : Prop := Claim7.holds Tryd.pinned (.plain (OpenSpec.ofChange fnRiffHeadsSpec)) fnRiffHeadsCard

/-- THE TIED CARD OF 'laws.FnRiffSkips'. -/
def fnRiffSkipsCard : Claim7 := { stood := { row := fnRiffSkipsRow, standIns := [], harness := (true, "cbd9e0189deb569dc9eec5d40066bdf76026b82dfa4a4c22fc4772a7d6ae180c"), looks := true }, kinds := [], alts := [], laidByText := true, laidKinds := [.sentinel, .sentinel, .sentinel, .sentinel, .sentinel, .sentinel, .sentinel, .sentinel, .sentinel, .sentinel], laidTests := true, laidLooks := .later }
def FnRiffSkipsCardSaid : Prop := Claim7.holds Tryd.pinned (.plain (OpenSpec.ofChange fnRiffSkipsSpec)) fnRiffSkipsCard

/-- THE TIED CARD OF 'laws.FnRiffTree'. -/
def fnRiffTreeCard : Claim7 := { stood := { row := fnRiffTreeRow, standIns := [], harness := (true, "cbd9e0189deb569dc9eec5d40066bdf76026b82dfa4a4c22fc4772a7d6ae180c"), looks := true }, kinds := [], alts := [], laidByText := true, laidKinds := [.sentinel, .sentinel, .sentinel, .sentinel, .sentinel, .sentinel, .sentinel, .sentinel, .sentinel, .sentinel], laidTests := true, laidLooks := .later }
def FnRiffTreeCardSaid : Prop := Claim7.holds Tryd.pinned (.plain (OpenSpec.ofChange fnRiffTreeSpec)) fnRiffTreeCard

/-- THE SECOND FORM's CARD OF 'laws.FnRiffCuts'. -/
def fnRiffCutsUptoCard : Claim7 := { stood := { row := fnRiffCutsUptoRow, standIns := [], harness := (true, "cbd9e0189deb569dc9eec5d40066bdf76026b82dfa4a4c22fc4772a7d6ae180c"), looks := true }, kinds := [], alts := [], laidByText := true, laidKinds := [.sentinel, .sentinel, .sentinel, .sentinel, .sentinel, .sentinel, .sentinel, .sentinel, .sentinel, .sentinel], laidTests := true, laidLooks := .later }
def FnRiffCutsUptoCardSaid : Prop := Claim7.holds Tryd.pinned (.plain (OpenSpec.upto fnRiffCutsSpec)) fnRiffCutsUptoCard

/-- THE SECOND FORM's CARD OF 'laws.FnRiffHeads'. -/
def fnRiffHeadsUptoCard : Claim7 := { stood := { row := fnRiffHeadsUptoRow, standIns := [], harness := (true, "cbd9e0189deb569dc9eec5d40066bdf76026b82dfa4a4c22fc4772a7d6ae180c"), looks := true }, kinds := [], alts := [], laidByText := true, laidKinds := [.sentinel, .sentinel, .sentinel, .sentinel, .sentinel, .sentinel, .sentinel, .sentinel, .sentinel, .sentinel], laidTests := true, laidLooks := .later }
def FnRiffHeadsUptoCardSaid : Prop := Claim7.holds Tryd.pinned (.plain (OpenSpec.upto fnRiffHeadsSpec)) fnRiffHeadsUptoCard

/-- THE SECOND FORM's CARD OF 'laws.FnRiffSkips'. -/
def fnRiffSkipsUptoCard : Claim7 := { stood := { row := fnRiffSkipsUptoRow, standIns := [], harness := (true, "cbd9e0189deb569dc9eec5d40066bdf76026b82dfa4a4c22fc4772a7d6ae180c"), looks := true }, kinds := [], alts := [], laidByText := true, laidKinds := [.sentinel, .sentinel, .sentinel, .sentinel, .sentinel, .sentinel, .sentinel, .sentinel, .sentinel, .sentinel], laidTests := true, laidLooks := .later }
def FnRiffSkipsUptoCardSaid : Prop := Claim7.holds Tryd.pinned (.plain (OpenSpec.upto fnRiffSkipsSpec)) fnRiffSkipsUptoCard

/-- THE SECOND FORM's CARD OF 'laws.FnRiffTree'. -/
def fnRiffTreeUptoCard : Claim7 := { stood := { row := fnRiffTreeUptoRow, standIns := [], harness := (true, "cbd9e0189deb569dc9eec5d40066bdf76026b82dfa4a4c22fc4772a7d6ae180c"), looks := true }, kinds := [], alts := [], laidByText := true, laidKinds := [.sentinel, .sentinel, .sentinel, .sentinel, .sentinel, .sentinel, .sentinel, .sentinel, .sentinel, .sentinel], laidTests := true, laidLooks := .later }
def FnRiffTreeUptoCardSaid : Prop := Claim7.holds Tryd.pinned (.plain (OpenSpec.upto fnRiffTreeSpec)) fnRiffTreeUptoCard
end Rows
end Go.Proofs.YthipghkhdlnfiaaDoor
