/-
  DERIVED. GIVEN WITH THE SEED: THE CARDS: each row of YbulkdoisDoorRows.lean that lists a variable, with what it lists TIED to the program's text (the seventh form; the later family's looks); each row that meets fmt, with fmt's text TOLD by the authors' own Lean function (tested against real Go, not proved from fmt's source: count such statements apart). THE CARD IS WHAT COUNTS. Prove the row's statement (the work); the ties are given (YbulkdoisDoorTie.lean); close each card by the builder's one call (the guide's Derived/Test/ToyasCard.lean, 'card_holds'). Laid BY PROGRAM, IN A SANDBOX (cutbox-door.mjs). By AI agents, Wed Nov 11 2026. No macro, syntax, notation, axiom, sorry.
-/
import Derived.Test.YbulkdoisDoorRows
import GoSem.ClaimSeven
namespace Go.Proofs.YbulkdoisDoor
namespace Rows

/-- THE TIED CARD OF 'numbra.LawS5764BWhole'. -/
def lawS5764BWholeCard : Claim7 := { stood := { row := lawS5764BWholeRow, standIns := [], harness := (true, "3ba97605a5d1803571ceb06e7ee672c3f22e1eddef44eacae3c642008b7eb09c"), looks := true }, kinds := [], alts := [], laidByText := true, laidKinds := [.data], laidTests := true, laidLooks := .later }
def LawS5764BWholeCardSaid : Prop := Claim7.holds Ybad.pinned (.plain (OpenSpec.ofChange lawS5764BWholeSpec)) lawS5764BWholeCard
end Rows
end Go.Proofs.YbulkdoisDoor
