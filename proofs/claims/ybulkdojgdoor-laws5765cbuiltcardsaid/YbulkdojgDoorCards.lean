/-
  DERIVED. GIVEN WITH THE SEED: THE CARDS: each row of YbulkdojgDoorRows.lean that lists a variable, with what it lists TIED to the program's text (the seventh form; the later family's looks); each row that meets fmt, with fmt's text TOLD by the authors' own Lean function (tested against real Go, not proved from fmt's source: count such statements apart). THE CARD IS WHAT COUNTS. Prove the row's statement (the work); the ties are given (YbulkdojgDoorTie.lean); close each card by the builder's one call (the guide's Derived/Test/ToyasCard.lean, 'card_holds'). Laid BY PROGRAM, IN A SANDBOX (cutbox-door.mjs). By AI agents, Wed Nov 11 2026. No macro, syntax, notation, axiom, sorry.
-/
import Derived.Test.YbulkdojgDoorRows
import GoSem.ClaimSeven
namespace Go.Proofs.YbulkdojgDoor
namespace Rows

/-- THE TIED CARD OF 'server.LawS5765CWhole'. -/
def lawS5765CWholeCard : Claim7 := { stood := { row := lawS5765CWholeRow, standIns := [], harness := (true, "a2ef4d0fd03ea3f87f1d76673a67545eedddb5bcf61be10672dbb6658669a252"), looks := true }, kinds := [], alts := [], laidByText := true, laidKinds := [.data, .data, .data, .sentinel, .sentinel], laidTests := true, laidLooks := .later }
def LawS5765CWholeCardSaid : Prop := Claim7.holds Ybad.pinned (.plain (OpenSpec.ofChange lawS5765CWholeSpec)) lawS5765CWholeCard

/-- THE TIED CARD OF 'server.LawS5765CBuilt'. -/
def lawS5765CBuiltCard : Claim7 := { stood := { row := lawS5765CBuiltRow, standIns := [], harness := (true, "a2ef4d0fd03ea3f87f1d76673a67545eedddb5bcf61be10672dbb6658669a252"), looks := true }, kinds := [], alts := [], laidByText := true, laidKinds := [.data, .data, .data, .sentinel, .sentinel], laidTests := true, laidLooks := .later }
def LawS5765CBuiltCardSaid : Prop := Claim7.holds Ybad.pinned (.plain (OpenSpec.ofChange lawS5765CBuiltSpec)) lawS5765CBuiltCard
end Rows
end Go.Proofs.YbulkdojgDoor
