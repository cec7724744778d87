/-
  The row of seat b5764aD's law, proved; and its tied card. The listed table is opened once ('of_laid'); the walk does the rest; the named variable is read again behind the call by the frame.
-/
import Derived.Test.YbulkdoisDoorCards
import Derived.Test.YbulkdoisDoorTie
import Derived.Test.YbulkdoisDoorLaw
import Derived.ProofKit
import Derived.LaidMore
import Derived.OpenShut
import Derived.Deep.Strs
import Derived.SevenTiedAt
import Derived.WalkSmall
namespace Go.Proofs.YbulkdoisDoor
open Go.ChangeShapes Go.WideShapes Go.ChangeAt Go.WideMaps Go.WideElems Go.RowKit
open Go.ChangeMaps (open_string shut_string)
set_option linter.unusedVariables false

theorem own : ownKnob Ybad.prog.godebug = none := by kernel_rfl
theorem laidOut : laidOutB Ybad.prog = true := by kernel_rfl
/-- The named variable, as the row's specification spells it. -/
def gName : String := Rows.lawS5764BWholeSpec.vars.headD ""
theorem gNum : Ybad.prog.globalNamed gName = some 0 := by kernel_rfl
theorem gType : (Ybad.prog.globals[0]?).map (·.type) = some 38 := by kernel_rfl
theorem cells37 : Ybad.prog.cellsOf 37 = 3 := by kernel_rfl
theorem cells9 : Ybad.prog.cellsOf 9 = 1 := by kernel_rfl

theorem bytes_of {s : ByteArray} {l : List UInt8} (h : s.data.toList = l) : s = ⟨l.toArray⟩ := by
  subst h
  cases s
  simp

/-- One element of the table: its first cell is the name. -/
theorem name_of {W : World} {m : Nat} {cs : List Value} {x : DataW Unit × List MemPlace} {l : List UInt8} {d1 d2 : DataW Unit}
    (h : DataW.trod (fun _ => ()) Ybad.prog W 0 (fun _ => true) false m 37 cs = some x) (hx : x.1 = .agg [.lit (.string l), d1, d2]) : cs[0]? = some (.string ⟨l.toArray⟩) := by
  obtain ⟨_, _, _, _, rfl, hl, h0, _, _⟩ := Go.Deep.trod_struct3 Ybad.underlying37 h
  obtain ⟨s, e1, rfl, _⟩ := DataW.trod_string Ybad.underlying9 h0
  simp at hx
  obtain rfl := bytes_of hx.1
  rw [cells9] at e1
  cases cs with
  | nil => simp at e1
  | cons c r => simp at e1; simp [e1]

theorem of_laid {W : World} (h : laidMetH Ybad.prog Rows.lawS5764BWholeRow.laid W) : 0 < W.heap.size ∧ W.cell? ⟨0, 3, none⟩ = some (.string ⟨#[101, 97, 112, 45, 97, 107, 97]⟩) ∧
    W.cell? ⟨0, 6, none⟩ = some (.string ⟨#[101, 97, 112, 45, 97, 107, 97, 45, 112, 114, 105, 109, 101]⟩) ∧ W.cell? ⟨0, 9, none⟩ = some (.string ⟨#[101, 97, 112, 45, 115, 105, 109]⟩) := by
  rw [MakeChecks.laidMetH_plain _ _ _ (by kernel_rfl)] at h
  obtain ⟨ps, ⟨g0, t0, cs0, f0, p0, q0, hg0, ht0, hv0, hd0, _, _⟩, _, _⟩ := h
  obtain rfl := Option.some.inj (gNum.symm.trans hg0)
  obtain rfl := Option.some.inj (gType.symm.trans ht0)
  obtain ⟨xs, m, rfl, hx, hlen, hn4, hel⟩ := DataW.trod_array Ybad.underlying38 hd0
  simp only [Prod.mk.injEq, DataW.agg.injEq, Rows.laid_example_com_numbra_numbra_eapMethods] at hx
  have e1 := hel 1 (by decide)
  have e2 := hel 2 (by decide)
  have e3 := hel 3 (by decide)
  have hc := World.var?_cell hg0 hv0
  match xs, hn4, hx, e1, e2, e3 with
  | [x0, x1, x2, x3], _, hx, e1, e2, e3 =>
    simp only [List.map_cons, List.map_nil, List.cons.injEq] at hx
    rw [cells37] at e1 e2 e3
    have a1 := name_of e1 hx.1.2.1.symm
    have a2 := name_of e2 hx.1.2.2.1.symm
    have a3 := name_of e3 hx.1.2.2.2.1.symm
    simp at a1 a2 a3
    have b1 := (hc 3).trans (by simpa using a1)
    have b2 := (hc 6).trans (by simpa using a2)
    have b3 := (hc 9).trans (by simpa using a3)
    exact ⟨World.block_lt_of_cell? W _ b1, b1, b2, b3⟩

/-- The door's own heap meets the condition. -/
theorem door_met (os : Os) (args : Array Value) : laidMetH Ybad.prog Rows.lawS5764BWholeRow.laid ((World.doorLaid Ybad.prog 17 os).forCall (fun _ _ => 0) ⟨#[], args, []⟩).memory :=
  laidMetH_of_parts3 (fuel := 8) (laidMet_of_run' 8 (by kernel_rfl) (by kernel_rfl)) (by kernel_rfl) (by kernel_rfl)

set_option maxRecDepth 100000 in
theorem lifted (os : Os) (started : os.Started) (H : Type) (enc : TypeId × Value → H) :
    ReturnsInHanded {} Ybad.checked os 3 .any (fun w args => (Rows.lawS5764BWholeSpec.pre enc Ybad.prog Ybad.f3 [] false w args ∧ laidMetH Ybad.prog Rows.lawS5764BWholeRow.laid w) ∧ sizedMet enc Ybad.prog Ybad.f3 (OpenSpec.ofChange Rows.lawS5764BWholeSpec) false w args)
      (Rows.lawS5764BWholeSpec.post enc Ybad.prog Ybad.f3 false true false false) := by
  refine returnsInHanded_of_change_and (C := Ybad.checked) (X := fun w _ => laidMetH Ybad.prog Rows.lawS5764BWholeRow.laid w) (fun _ _ _ hh h => h.of_heap hh) own started (by kernel_rfl) Ybad.func3
    (ChangeSpec.witness_shaped (enc := enc) (C := Ybad.checked) (os := os) (X := fun w _ => laidMetH Ybad.prog Rows.lawS5764BWholeRow.laid w) false (World.doorLaid Ybad.prog 17 os) #[.int .u8 0, .string ⟨#[]⟩] 8 rfl (World.shaped_of_RefB (by kernel_rfl) (by kernel_rfl)) (by kernel_rfl) (by kernel_rfl) (by kernel_rfl) (door_met os _)) ?_
  intro W base args ds gs before hval0 hW _ _ hL _
  have hval : ∀ (j : Nat) t v, Ybad.f3.params[j]? = some t → args[j]? = some v → Value.okWide Ybad.prog W .any base t v := hval0
  have hW' := hW
  obtain ⟨p, q, hA0, hV0, rfl, hfz, hnd⟩ := hW
  have hA : DataW.TrodAll enc Ybad.prog W 0 (fun _ => true) true Ybad.f3.params.toList args.toList ds p := hA0
  have hV : DataW.TrodVars enc Ybad.prog W (fun _ => true) [gName] gs q := hV0
  rw [Ybad.params3] at hA hval
  obtain ⟨v0, v1, d0, d1, p0, p1, rfl, rfl, rfl, h0, h1⟩ := trodAll_two hA
  obtain ⟨a0, rfl, rfl, rfl, w0⟩ := open_int Ybad.underlying5 (hval 0 5 v0 rfl rfl) h0
  obtain ⟨s1, rfl, rfl, rfl, hs1⟩ := open_string Ybad.underlying9 (hval 1 9 v1 rfl rfl) h1
  obtain ⟨g, t, cs, fuel, d, p', rfl, hg, ht, hvar, hd, rfl⟩ := trodVars_one hV
  obtain rfl := Option.some.inj (gNum.symm.trans hg)
  obtain rfl := Option.some.inj (gType.symm.trans ht)
  obtain ⟨hw0, hc1, hc2, hc3⟩ := of_laid hL
  clear hA0 hval0 hV0
  have hb0 : 0 ≤ a0 ∧ a0 ≤ 255 := bounds_u8 w0
  have hlt : ∀ x ∈ p', x.block < W.heap.size := DataW.trod_lt fuel _ _ _ hd
  refine (law_any a0 s1 W hb0.1 hb0.2 hw0 hc1 hc2 hc3).mono fun e W' ⟨he, bel⟩ => ?_
  subst he
  obtain ⟨m, hd'⟩ := Below.trod (v := .agg cs) laidOut (by kernel_rfl) (of_decide_eq_true (by kernel_rfl)) ⟨fuel, hd⟩ bel hlt
  exact ⟨_, rfl, _, _, _, [], _, _, hW', trodAll_mk1 (shut_bool Ybad.underlying4 _), trodAll_mk2 (shut_int Ybad.underlying5 w0) (shut_string Ybad.underlying9 hs1),
    trodVars_mk1 gNum gType (var?_below bel gNum hw0 hvar) hd', bel.frame _, fun h => by cases h⟩

theorem over : Rows.LawS5764BWholeSaid :=
  OpenClaim.holds_of_wide 3 Ybad.f3 rfl rfl rfl rfl rfl rfl rfl ⟨rfl, rfl, rfl, rfl, rfl⟩ rfl rfl rfl rfl rfl (by kernel_rfl) Ybad.func3 (by kernel_rfl)
    (of_decide_eq_true (by kernel_rfl)) (by unfold Func.isWrapper; first | (rw [if_pos (by decide +kernel)]; kernel_rfl) | (rw [if_neg (by decide +kernel)]; exact ⟨rfl, rfl⟩))
    (fun os started H enc _ => lifted os started H enc)

/-- THE TIED CARD. -/
theorem proved : Rows.LawS5764BWholeCardSaid :=
  Claim7.holds_tied_plain_at .later [] [.data] true Rows.lawS5764BWholeCard.stood.harness true
    over (fun _ h => by cases h) (by kernel_rfl) (fun _ h => by cases h) lawS5764BWhole_row_tie rfl ⟨rfl, rfl⟩ (by kernel_rfl) rfl
    (fun f fn hf hfn => by
      obtain rfl : f = 3 := Option.some.inj ((show Ybad.prog.funcNamed Rows.lawS5764BWholeRow.func = some 3 by kernel_rfl).symm.trans hf) |>.symm
      obtain rfl : fn = Ybad.f3 := (Option.some.inj (Ybad.func3.symm.trans hfn)).symm
      exact ⟨by kernel_rfl, fun j t ht => by
        rw [Ybad.params3] at ht
        have hm : t ∈ [5, 9] := by simpa using Array.mem_of_getElem? ht
        have hall : ([5, 9].all fun u => !Ybad.prog.wantsStandIn u) = true := by kernel_rfl
        exact (show Ybad.prog.wantsStandIn t = false by simpa using List.all_eq_true.1 hall t hm)⟩)
    (by kernel_rfl)
end Go.Proofs.YbulkdoisDoor
