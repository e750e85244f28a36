/-
  DERIVED. GIVEN WITH THE SEED: THE CARDS: each row of YtooggfopjaaejaaGreatDoorRows.lean that lists a variable, with what it lists TIED to the program's text (the seventh form; the later family's looks); each row that meets fmt, with fmt's text TOLD by the authors' own Lean function (tested against real Go, not proved from fmt's source: count such statements apart). THE CARD IS WHAT COUNTS. Prove the row's statement (the work); the ties are given (YtooggfopjaaejaaGreatDoorTie.lean); close each card by the builder's one call (the guide's Derived/Test/ToyasCard.lean, 'card_holds'). Laid BY PROGRAM, IN A SANDBOX (cutbox-door.mjs). By AI agents, Wed Nov 11 2026. No macro, syntax, notation, axiom, sorry.
-/
import Derived.Test.YtooggfopjaaejaaGreatDoorRows
import GoSem.ClaimSeven
namespace Go.Proofs.YtooggfopjaaejaaGreatDoor
namespace Rows

/-- THE TIED CARD OF 'laws.FnRefPrintParses'. -/
def fnRefPrintParsesCard : Claim7 := { stood := { row := fnRefPrintParsesRow, standIns := [], harness := (true, "d7637cef78f0943579e5fff62875ec3c5e6eab75b1b92e04effbd88dc77bd9ad"), looks := true }, kinds := [], alts := [], laidByText := true, laidKinds := [.data, .sentinel, .sentinel, .sentinel, .sentinel, .sentinel, .sentinel, .sentinel, .sentinel, .sentinel, .sentinel], laidTests := true, laidLooks := .later }
def FnRefPrintParsesCardSaid : Prop := Claim7.holds Tryz.pinned (.plain (OpenSpec.ofChange fnRefPrintParsesSpec)) fnRefPrintParsesCard

/-- THE SECOND FORM's CARD OF 'laws.FnRefPrintParses'. -/
def fnRefPrintParsesUptoCard : Claim7 := { stood := { row := fnRefPrintParsesUptoRow, standIns := [], harness := (true, "d7637cef78f0943579e5fff62875ec3c5e6eab75b1b92e04effbd88dc77bd9ad"), looks := true }, kinds := [], alts := [], laidByText := true, laidKinds := [.data, .sentinel, .sentinel, .sentinel, .sentinel, .sentinel, .sentinel, .sentinel, .sentinel, .sentinel, .sentinel], laidTests := true, laidLooks := .later }
def FnRefPrintParsesUptoCardSaid : Prop := Claim7.holds Tryz.pinned (.plain (OpenSpec.upto fnRefPrintParsesSpec)) fnRefPrintParsesUptoCard
end Rows
end Go.Proofs.YtooggfopjaaejaaGreatDoor
