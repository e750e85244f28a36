/-
  DERIVED. GIVEN WITH THE SEED: THE CARDS: each row of YtkbmigfkclnlaaaGreatDoorRows.lean that lists a variable, with what it lists TIED to the program's text (the seventh form; the later family's looks); each row that meets fmt, with fmt's text TOLD by the authors' own Lean function (tested against real Go, not proved from fmt's source: count such statements apart). THE CARD IS WHAT COUNTS. Prove the row's statement (the work); the ties are given (YtkbmigfkclnlaaaGreatDoorTie.lean); close each card by the builder's one call (the guide's Derived/Test/ToyasCard.lean, 'card_holds'). Laid BY PROGRAM, IN A SANDBOX (cutbox-door.mjs). By AI agents, Wed Nov 11 2026. No macro, syntax, notation, axiom, sorry.
-/
import Derived.Test.YtkbmigfkclnlaaaGreatDoorRows
import GoSem.ClaimSeven
namespace Go.Proofs.YtkbmigfkclnlaaaGreatDoor
namespace Rows

/-- THE TIED CARD OF 'laws.FnRefNormalSelf'. -/
def fnRefNormalSelfCard : Claim7 := { stood := { row := fnRefNormalSelfRow, standIns := [], harness := (true, "40b6a7cbc290d1e959265203f02dd17f69215e1804fc031519ade9bf9c75c7ae"), looks := true }, kinds := [], alts := [], laidByText := true, laidKinds := [.data, .sentinel, .sentinel, .sentinel, .sentinel, .sentinel, .sentinel, .sentinel, .sentinel, .sentinel, .sentinel], laidTests := true, laidLooks := .later }
def FnRefNormalSelfCardSaid : Prop := Claim7.holds Tryz.pinned (.plain (OpenSpec.ofChange fnRefNormalSelfSpec)) fnRefNormalSelfCard

/-- THE SECOND FORM's CARD OF 'laws.FnRefNormalSelf'. -/
def fnRefNormalSelfUptoCard : Claim7 := { stood := { row := fnRefNormalSelfUptoRow, standIns := [], harness := (true, "40b6a7cbc290d1e959265203f02dd17f69215e1804fc031519ade9bf9c75c7ae"), looks := true }, kinds := [], alts := [], laidByText := true, laidKinds := [.data, .sentinel, .sentinel, .sentinel, .sentinel, .sentinel, .sentinel, .sentinel, .sentinel, .sentinel, .sentinel], laidTests := true, laidLooks := .later }
def FnRefNormalSelfUptoCardSaid : Prop := Claim7.holds Tryz.pinned (.plain (OpenSpec.upto fnRefNormalSelfSpec)) fnRefNormalSelfUptoCard
end Rows
end Go.Proofs.YtkbmigfkclnlaaaGreatDoor
