/-
  Seat b5767aD: what the rows' cell 'laid' gives the walks (the two sentinels of strconv hold each some value of an interface's type), and the start that meets it.
-/
import Derived.Test.YbulkdokiDoorRows
import Derived.ProofKit
import Derived.LaidMore
import Derived.LaidLaws
import Derived.OpenShut
import Derived.Stop.LaidErr
import Derived.MakeChecks
namespace Go.Proofs.YbulkdokiDoor
open Go.ChangeShapes Go.WideShapes Go.ChangeAt Go.WideMaps Go.WideElems Go.RowKit

theorem own : ownKnob Ybad.prog.godebug = none := by kernel_rfl
theorem gES : Ybad.prog.globalNamed "strconv.ErrSyntax" = some 0 := by kernel_rfl
theorem gER : Ybad.prog.globalNamed "strconv.ErrRange" = some 1 := by kernel_rfl
theorem tES : (Ybad.prog.globals[0]?).map (·.type) = some 24 := by kernel_rfl
theorem tER : (Ybad.prog.globals[1]?).map (·.type) = some 24 := by kernel_rfl

/-- A listed variable of type 'error' that reads as a value holds an interface value. -/
theorem held_of_laid {n nm : String} {d : DataW Unit} {r : List (String × DataW Unit)} {W : World} {g : Nat} (h : laidMet Ybad.prog ((n, .iface nm d) :: r) W)
    (hg : Ybad.prog.globalNamed n = some g) (ht : (Ybad.prog.globals[g]?).map (·.type) = some 24) : ∃ u v, W.var? Ybad.prog n = some #[.iface u v] := by
  obtain ⟨ps, ⟨g0, t0, cs0, f0, p0, q0, hg0, ht0, hv0, hd0, _, e0⟩, _, _⟩ := h
  obtain rfl := Option.some.inj (hg.symm.trans hg0)
  obtain rfl := Option.some.inj (ht.symm.trans ht0)
  obtain ⟨l0⟩ := cs0
  obtain ⟨_, u, v, e, _, _⟩ := iface_of_trod Ybad.underlying24 hd0
  simp only at e
  subst e
  exact ⟨u, v, hv0⟩

theorem of_laid {W : World} (h : laidMetH Ybad.prog Rows.lawS5767CWholeRow.laid W) :
    (∃ u v, W.var? Ybad.prog "strconv.ErrSyntax" = some #[.iface u v]) ∧ ∃ u v, W.var? Ybad.prog "strconv.ErrRange" = some #[.iface u v] := by
  rw [MakeChecks.laidMetH_plain _ _ _ (by kernel_rfl)] at h
  have h3 := h.tail.tail.tail
  exact ⟨held_of_laid h3.tail gES tES, held_of_laid h3 gER tER⟩

/-- The door's own heap meets the condition. -/
theorem door_met (os : Os) (args : Array Value) : laidMetH Ybad.prog Rows.lawS5767CWholeRow.laid ((World.doorLaid Ybad.prog 62 os).forCall (fun _ _ => 0) ⟨#[], args, []⟩).memory :=
  laidMetH_of_parts3 (fuel := 8) (laidMet_of_run' 8 (by kernel_rfl) (by kernel_rfl)) (by kernel_rfl) (by kernel_rfl)
end Go.Proofs.YbulkdokiDoor
