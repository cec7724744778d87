/-
  DERIVED. GIVEN WITH THE SEED: THE CARDS: each row of YbulkdokiDoorRows.lean that lists a variable, with what it lists TIED to the program's text (the seventh form; the later family's looks); each row that meets fmt, with fmt's text TOLD by the authors' own Lean function (tested against real Go, not proved from fmt's source: count such statements apart). THE CARD IS WHAT COUNTS. Prove the row's statement (the work); the ties are given (YbulkdokiDoorTie.lean); close each card by the builder's one call (the guide's Derived/Test/ToyasCard.lean, 'card_holds'). Laid BY PROGRAM, IN A SANDBOX (cutbox-door.mjs). By AI agents, Wed Nov 11 2026. No macro, syntax, notation, axiom, sorry.
-/
import Derived.Test.YbulkdokiDoorRows
import GoSem.ClaimSeven
namespace Go.Proofs.YbulkdokiDoor
namespace Rows

/-- THE TIED CARD OF 'sealband.LawS5767CWhole'. -/
def lawS5767CWholeCard : Claim7 := { stood := { row := lawS5767CWholeRow, standIns := [], harness := (true, "3db4f5a2391116c1306c453b80fee1c647395b879b0dae0d41b855e4941341bd"), looks := true }, kinds := [], alts := [], laidByText := true, laidKinds := [.data, .data, .data, .sentinel, .sentinel], laidTests := true, laidLooks := .later }
def LawS5767CWholeCardSaid : Prop := Claim7.holds Ybad.pinned (.plain (OpenSpec.ofChange lawS5767CWholeSpec)) lawS5767CWholeCard

/-- THE TIED CARD OF 'sealband.LawS5767CRoundTrip'. -/
def lawS5767CRoundTripCard : Claim7 := { stood := { row := lawS5767CRoundTripRow, standIns := [], harness := (true, "3db4f5a2391116c1306c453b80fee1c647395b879b0dae0d41b855e4941341bd"), looks := true }, kinds := [], alts := [], laidByText := true, laidKinds := [.data, .data, .data, .sentinel, .sentinel], laidTests := true, laidLooks := .later }
def LawS5767CRoundTripCardSaid : Prop := Claim7.holds Ybad.pinned (.plain (OpenSpec.ofChange lawS5767CRoundTripSpec)) lawS5767CRoundTripCard
end Rows
end Go.Proofs.YbulkdokiDoor
