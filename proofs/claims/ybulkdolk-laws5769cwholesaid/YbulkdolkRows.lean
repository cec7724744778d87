/-
  No cell of these rows narrows 'for every input' (looked for: loops, veiled, ifaces, maps, wideKeys, modest, calm, conditions, laid).
  DERIVED. THE GIVEN ROWS OF THIS SEAT. 1 by the template 'for every input the law returns true; each argument reads behind the call as it read before'; 0 by the template 'total and deterministic' (their statements: YbulkdolkTotals.lean).
  GIVEN WITH THE SEED: the statements are not yours to turn. If you find one false, say at which input.
  Laid BY PROGRAM, IN A SANDBOX (cutbox-rows.mjs): the forced cells as the released guide's own fill.sh prints them over the translation 405bbe1fde0fd6cd… (all of the seat's roots in one cut). By AI agents, Wed Nov 11 2026. No macro, syntax, notation, axiom, sorry.
-/
import Derived.Test.YbulkdolkChecked
import GoSem.Claim
import GoSem.ClaimJoined
import GoSem.ClaimMapViews
import Derived.JoinedTies
import Derived.KernelRfl
namespace Go.Proofs.Ybulkdolk
/- THE CELL 'sum', in the pinned program and in every row, IS THE sha256 OF THE DUMP (.gsa) THAT YbulkdolkProg.lean LOADS. Nothing in Lean hashes anything: it is a label: what it is worth is what the hold of that sum in a sandbox is worth. -/
noncomputable def Yba.pinned : Pinned := { name := "ybulkdolk", sum := "405bbe1fde0fd6cdbdeffc1f614bc0f8e20e4310debf626457af3925e2b0ce47", checked := Yba.checked }
namespace Rows
def none {H : Type} : Left H := { results := [], args := [] }

/-- 'bytenest.LawS5769CWhole': WHATEVER THE INPUT: true; the input reads as it did. -/
def lawS5769CWholeSpec : ChangeSpec := { name := "lawS5769CWhole", fn := fun _ => fun
  | [d1, d2, d3, d4, d5, d6, d7] => { results := [.lit (.bool true)], args := [d1, d2, d3, d4, d5, d6, d7] }
  | _ => none }
def lawS5769CWholeRow : OpenClaim := { program := "ybulkdolk", sum := "405bbe1fde0fd6cdbdeffc1f614bc0f8e20e4310debf626457af3925e2b0ce47", func := "example.com/bytenest/bytenest.LawS5769CWhole", spec := "lawS5769CWhole", apart := false }
def LawS5769CWholeSaid : Prop := lawS5769CWholeRow.holds Yba.pinned (OpenSpec.ofChange lawS5769CWholeSpec)

/-- ITS FALSE NEIGHBOUR: 'it returns false'. Refute it at one input. -/
def lawS5769CWholeWrong : ChangeSpec := { name := "lawS5769CWhole", fn := fun _ => fun
  | [d1, d2, d3, d4, d5, d6, d7] => { results := [.lit (.bool false)], args := [d1, d2, d3, d4, d5, d6, d7] }
  | _ => none }
def LawS5769CWholeWrongFalsely : Prop := lawS5769CWholeRow.holds Yba.pinned (OpenSpec.ofChange lawS5769CWholeWrong)

end Rows
end Go.Proofs.Ybulkdolk
