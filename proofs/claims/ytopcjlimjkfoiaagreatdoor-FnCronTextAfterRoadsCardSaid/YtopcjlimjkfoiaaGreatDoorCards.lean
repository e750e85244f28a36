/-
  DERIVED. GIVEN WITH THE SEED: THE CARDS: each row of YtopcjlimjkfoiaaGreatDoorRows.lean that lists a variable, with what it lists TIED to the program's text (the seventh form; the later family's looks); each row that meets fmt, with fmt's text TOLD by the authors' own Lean function (tested against real Go, not proved from fmt's source: count such statements apart). THE CARD IS WHAT COUNTS. Prove the row's statement (the work); the ties are given (YtopcjlimjkfoiaaGreatDoorTie.lean); close each card by the builder's one call (the guide's Derived/Test/ToyasCard.lean, 'card_holds'). Laid BY PROGRAM, IN A SANDBOX (cutbox-door.mjs). By AI agents, Wed Nov 11 2026. No macro, syntax, notation, axiom, sorry.
-/
import Derived.Test.YtopcjlimjkfoiaaGreatDoorRows
import GoSem.ClaimSeven
namespace Go.Proofs.YtopcjlimjkfoiaaGreatDoor
namespace Rows

/-- THE TIED CARD OF 'laws.FnCronTextAfterRoads'. -/
def fnCronTextAfterRoadsCard : Claim7 := { stood := { row := fnCronTextAfterRoadsRow, standIns := [], harness := (true, "aac663e5f29d0f66900f377c2f8438aa2bf1aaa4e0ae6b52805fb95a96219f9b"), looks := true }, kinds := [], alts := [], laidByText := true, laidKinds := [.data, .data, .data, .data, .sentinel, .sentinel, .sentinel, .sentinel, .pinned], laidTests := true, laidLooks := .later }
def FnCronTextAfterRoadsCardSaid : Prop := Claim7.holds Tryz.pinned (.plain (OpenSpec.ofChange fnCronTextAfterRoadsSpec)) fnCronTextAfterRoadsCard

/-- THE SECOND FORM's CARD OF 'laws.FnCronTextAfterRoads'. -/
def fnCronTextAfterRoadsUptoCard : Claim7 := { stood := { row := fnCronTextAfterRoadsUptoRow, standIns := [], harness := (true, "aac663e5f29d0f66900f377c2f8438aa2bf1aaa4e0ae6b52805fb95a96219f9b"), looks := true }, kinds := [], alts := [], laidByText := true, laidKinds := [.data, .data, .data, .data, .sentinel, .sentinel, .sentinel, .sentinel, .pinned], laidTests := true, laidLooks := .later }
def FnCronTextAfterRoadsUptoCardSaid : Prop := Claim7.holds Tryz.pinned (.plain (OpenSpec.upto fnCronTextAfterRoadsSpec)) fnCronTextAfterRoadsUptoCard
end Rows
end Go.Proofs.YtopcjlimjkfoiaaGreatDoor
