/-
  DERIVED. GIVEN WITH THE SEED: THE CARDS: each row of YbulkcelaGreatDoorRows.lean that lists a variable, with what it lists TIED to the program's text (the seventh form; the later family's looks); each row that meets fmt, with fmt's text TOLD by the authors' own Lean function (tested against real Go, not proved from fmt's source: count such statements apart). THE CARD IS WHAT COUNTS. Prove the row's statement (the work); the ties are given (YbulkcelaGreatDoorTie.lean); close each card by the builder's one call (the guide's Derived/Test/ToyasCard.lean, 'card_holds'). Laid BY PROGRAM, IN A SANDBOX (cutbox-door.mjs). By AI agents, Wed Nov 11 2026. No macro, syntax, notation, axiom, sorry.
-/
import Derived.Test.YbulkcelaGreatDoorRows
import GoSem.ClaimSeven
namespace Go.Proofs.YbulkcelaGreatDoor
namespace Rows

/-- THE TIED CARD OF 'forecast.LawS4030CPieces'. -/
def lawS4030CPiecesCard : Claim7 := { stood := { row := lawS4030CPiecesRow, standIns := [], harness := (true, "9814e34fa54ef4f6d0a433739e5344bb0e462ae01fea11353d4607ab02d487da"), looks := true }, kinds := [], alts := [], laidByText := true, laidKinds := [.data, .data, .data], laidTests := true, laidLooks := .later }
def LawS4030CPiecesCardSaid : Prop := Claim7.holds Ybaz.pinned (.plain (OpenSpec.ofChange lawS4030CPiecesSpec)) lawS4030CPiecesCard
end Rows
end Go.Proofs.YbulkcelaGreatDoor
