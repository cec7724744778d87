/-
  NARROWER THAN 'FOR EVERY INPUT', by the rows' own cells (each row's printed sentence says how): LawS5764BWhole: laid.
  DERIVED. THE GIVEN ROWS OF THIS SEAT. 1 by the template 'for every input the law returns true; each argument reads behind the call as it read before'; 0 by the template 'total and deterministic' (their statements: YbulkdoisDoorTotals.lean).
  GIVEN WITH THE SEED: the statements are not yours to turn. If you find one false, say at which input.
  Laid BY PROGRAM, IN A SANDBOX (cutbox-rows.mjs): the forced cells as the released guide's own fill.sh prints them over the translation 8b3626fadd30c5f9… (all of the seat's roots in one cut). By AI agents, Wed Nov 11 2026. No macro, syntax, notation, axiom, sorry.
-/
import Derived.Test.YbulkdoisDoorChecked
import GoSem.Claim
import GoSem.ClaimJoined
import GoSem.ClaimMapViews
import Derived.JoinedTies
import Derived.KernelRfl
namespace Go.Proofs.YbulkdoisDoor
/- THE CELL 'sum', in the pinned program and in every row, IS THE sha256 OF THE DUMP (.gsa) THAT YbulkdoisDoorProg.lean LOADS. Nothing in Lean hashes anything: it is a label: what it is worth is what the hold of that sum in a sandbox is worth. -/
noncomputable def Ybad.pinned : Pinned := { name := "ybulkdoisdoor", sum := "8b3626fadd30c5f97991c4b9c807b85069191b2da6a0f1eb9bc6bc3be3429c38", checked := Ybad.checked }
namespace Rows
def none {H : Type} : Left H := { results := [], args := [] }

/- WHAT THE LISTED PACKAGE-LEVEL VARIABLES READ AS WHEN THE CALL BEGINS. Each datum BY PROGRAM (the guide's laid-datum.mjs) off the statement by which the dump's own 'gosem.cut.vars' lays the variable. In a bare row this is a premise. The card (YbulkdoisDoorCards.lean) ties it to the program's text. -/
def laid_example_com_numbra_numbra_eapMethods {H : Type} : DataW H := .agg [.agg [.lit (.string []), .lit (.string []), .lit (.int .u8 0)], .agg [.lit (.string [101, 97, 112, 45, 97, 107, 97]), .lit (.string [48]), .lit (.int .u8 3)], .agg [.lit (.string [101, 97, 112, 45, 97, 107, 97, 45, 112, 114, 105, 109, 101]), .lit (.string [54]), .lit (.int .u8 1)], .agg [.lit (.string [101, 97, 112, 45, 115, 105, 109]), .lit (.string [49]), .lit (.int .u8 2)]]

/-- 'numbra.LawS5764BWhole': WHATEVER THE INPUT: true; the input reads as it did. -/
def lawS5764BWholeSpec : ChangeSpec := { name := "lawS5764BWhole", vars := ["example.com/numbra/numbra.eapMethods"], fn := fun _ => fun
  | [d1, d2, g1] => { results := [.lit (.bool true)], args := [d1, d2], vars := [g1] }
  | _ => none }
def lawS5764BWholeRow : OpenClaim := { program := "ybulkdoisdoor", sum := "8b3626fadd30c5f97991c4b9c807b85069191b2da6a0f1eb9bc6bc3be3429c38", func := "example.com/numbra/numbra.LawS5764BWhole", spec := "lawS5764BWhole", inPlace := ["internal/abi.NoEscape", "internal/bytealg.MakeNoZero"], named := ["example.com/numbra/numbra.eapMethods"], apart := false, laid := [("example.com/numbra/numbra.eapMethods", laid_example_com_numbra_numbra_eapMethods)] }
def LawS5764BWholeSaid : Prop := lawS5764BWholeRow.holds Ybad.pinned (OpenSpec.ofChange lawS5764BWholeSpec)

/-- ITS FALSE NEIGHBOUR: 'it returns false'. Refute it at one input. -/
def lawS5764BWholeWrong : ChangeSpec := { name := "lawS5764BWhole", vars := ["example.com/numbra/numbra.eapMethods"], fn := fun _ => fun
  | [d1, d2, g1] => { results := [.lit (.bool false)], args := [d1, d2], vars := [g1] }
  | _ => none }
def LawS5764BWholeWrongFalsely : Prop := lawS5764BWholeRow.holds Ybad.pinned (OpenSpec.ofChange lawS5764BWholeWrong)

end Rows
end Go.Proofs.YbulkdoisDoor
