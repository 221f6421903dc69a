/-
  DERIVED. GIVEN WITH THE SEED: THE CARDS: each row of YtoafokmghjfpmaaRDoorRows.lean that lists a variable, with what it lists TIED to the program's text (the seventh form; the later family's looks); each row that meets fmt, with fmt's text TOLD by the authors' own Lean function (tested against real Go, not proved from fmt's source: count such statements apart). THE CARD IS WHAT COUNTS. Prove the row's statement (the work); the ties are given (YtoafokmghjfpmaaRDoorTie.lean); close each card by the builder's one call (the guide's Derived/Test/ToyasCard.lean, 'card_holds'). Laid BY PROGRAM, IN A SANDBOX (cutbox-door.mjs). By AI agents, Wed Nov 11 2026. No macro, syntax, notation, axiom, sorry.
-/
import Derived.Test.YtoafokmghjfpmaaRDoorRows
import GoSem.ClaimSeven
namespace Go.Proofs.YtoafokmghjfpmaaRDoor
namespace Rows

/-- THE TIED CARD OF 'laws.FnDistance'. -/
def fnDistanceCard : Claim7 := { stood := { row := fnDistanceRow, standIns := [], harness := (true, "aa63f73f01b607c5b4c30d56c3edf8cbff8176291db64a5f99c17b6a8bf41b3b"), looks := false }, kinds := [], alts := [], laidByText := true, laidKinds := [.data], laidTests := true, laidLooks := .later }
def FnDistanceCardSaid : Prop := Claim7.holds Tryd.pinned (.plain (OpenSpec.ofChange fnDistanceSpec)) fnDistanceCard

/-- THE SECOND FORM's CARD OF 'laws.FnDistance'. -/
def fnDistanceUptoCard : Claim7 := { stood := { row := fnDistanceUptoRow, standIns := [], harness := (true, "aa63f73f01b607c5b4c30d56c3edf8cbff8176291db64a5f99c17b6a8bf41b3b"), looks := false }, kinds := [], alts := [], laidByText := true, laidKinds := [.data], laidTests := true, laidLooks := .later }
def FnDistanceUptoCardSaid : Prop := Claim7.holds Tryd.pinned (.plain (OpenSpec.upto fnDistanceSpec)) fnDistanceUptoCard
end Rows
end Go.Proofs.YtoafokmghjfpmaaRDoor
