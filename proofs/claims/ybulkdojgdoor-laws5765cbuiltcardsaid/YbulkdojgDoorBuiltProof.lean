/-
  Seat b5765aD: the row and the tied card of 'LawS5765CBuilt'.
-/
import Derived.Test.YbulkdojgDoorCards
import Derived.Test.YbulkdojgDoorTie
import Derived.Test.YbulkdojgDoorBuilt
import Derived.Test.YbulkdojgDoorLaid
import Derived.SevenTiedAt
namespace Go.Proofs.YbulkdojgDoor
open Go.ChangeShapes Go.WideShapes Go.ChangeAt Go.WideMaps Go.WideElems Go.RowKit
set_option linter.unusedVariables false

/-- The law's walk, whole: whatever the number, the sign, the zeros and the bound. -/
theorem built_any (u sg zs mx : Int) (u0 : 0 ≤ u) (u1 : u ≤ 18446744073709551615) (s0 : 0 ≤ sg) (s1 : sg ≤ 255) (z0 : 0 ≤ zs) (z1 : zs ≤ 255) (tp tq : TypeId) (p q : Value) (w : World)
    (hv0 : w.var? Ybad.prog "strconv.ErrSyntax" = some #[.iface tp p]) (hv1 : w.var? Ybad.prog "strconv.ErrRange" = some #[.iface tq q]) :
    Calls Ybad.prog 4 #[.int .u64 u, .int .u8 sg, .int .u8 zs, .int .i64 mx] w fun e w' => e = .returned (.bool true) ∧ Below w.heap.size w w' := by
  have hw0 : 0 < w.heap.size := World.block_lt_of_cell? w ⟨0, 0, none⟩ (by simpa using World.var?_cell gES hv0 0)
  have hw1 : 1 < w.heap.size := World.block_lt_of_cell? w ⟨1, 0, none⟩ (by simpa using World.var?_cell gER hv1 0)
  have hc : sg % 3 = 0 ∨ sg % 3 = 1 ∨ sg % 3 = 2 := by omega
  rcases hc with hc | hc | hc
  · exact built_0 u sg zs mx u0 u1 s0 s1 z0 z1 (by simp [hc]) (by simp [hc]) (by simp [hc]) tp tq p q w (Lib.hid hv0) (Lib.hid hv1) hw0 hw1
  · exact built_1 u sg zs mx u0 u1 s0 s1 z0 z1 (by simp [hc]) (by simp [hc]) tp tq p q w (Lib.hid hv0) (Lib.hid hv1) hw0 hw1
  · exact built_2 u sg zs mx u0 u1 s0 s1 z0 z1 (by simp [hc]) (by simp [hc]) (by simp [hc]) tp tq p q w (Lib.hid hv0) (Lib.hid hv1) hw0 hw1

set_option maxRecDepth 100000 in
theorem built_lifted (os : Os) (started : os.Started) (H : Type) (enc : TypeId × Value → H) :
    ReturnsInHanded {} Ybad.checked os 4 .any (fun w args => (Rows.lawS5765CBuiltSpec.pre enc Ybad.prog Ybad.f4 [] false w args ∧ laidMetH Ybad.prog Rows.lawS5765CBuiltRow.laid w) ∧ sizedMet enc Ybad.prog Ybad.f4 (OpenSpec.ofChange Rows.lawS5765CBuiltSpec) false w args)
      (Rows.lawS5765CBuiltSpec.post enc Ybad.prog Ybad.f4 false true false false) := by
  refine returnsInHanded_of_change_and (C := Ybad.checked) (X := fun w _ => laidMetH Ybad.prog Rows.lawS5765CBuiltRow.laid w) (fun _ _ _ hh h => h.of_heap hh) own started (by kernel_rfl) Ybad.func4
    (ChangeSpec.witness_shaped (enc := enc) (C := Ybad.checked) (os := os) (X := fun w _ => laidMetH Ybad.prog Rows.lawS5765CBuiltRow.laid w) false (World.doorLaid Ybad.prog 62 os) #[.int .u64 0, .int .u8 0, .int .u8 0, .int .i64 0] 8 rfl (World.shaped_of_RefB (by kernel_rfl) (by kernel_rfl)) (by kernel_rfl) (by kernel_rfl) (by kernel_rfl) (door_met os _)) ?_
  intro W base args ds gs before hval0 hW _ _ hL _
  have hval : ∀ (j : Nat) t v, Ybad.f4.params[j]? = some t → args[j]? = some v → Value.okWide Ybad.prog W .any base t v := hval0
  have hW' := hW
  obtain ⟨p, q, hA0, hV, rfl, hfz, hnd⟩ := hW
  have hA : DataW.TrodAll enc Ybad.prog W 0 (fun _ => true) true Ybad.f4.params.toList args.toList ds p := hA0
  rw [Ybad.params4] at hA hval
  obtain ⟨v0, v1, v2, v3, d0, d1, d2, d3, p0, p1, p2, p3, rfl, rfl, rfl, h0, h1, h2, h3⟩ := trodAll_four hA
  obtain ⟨rfl, rfl⟩ := trodVars_none hV
  obtain ⟨a0, rfl, rfl, rfl, w0⟩ := open_int Ybad.underlying30 (hval 0 30 v0 rfl rfl) h0
  obtain ⟨a1, rfl, rfl, rfl, w1⟩ := open_int Ybad.underlying5 (hval 1 5 v1 rfl rfl) h1
  obtain ⟨a2, rfl, rfl, rfl, w2⟩ := open_int Ybad.underlying5 (hval 2 5 v2 rfl rfl) h2
  obtain ⟨a3, rfl, rfl, rfl, w3⟩ := open_int Ybad.underlying3 (hval 3 3 v3 rfl rfl) h3
  obtain ⟨⟨tp, pv, hv0⟩, tq, qv, hv1⟩ := of_laid hL
  clear hA0 hval0
  have b0 := bounds_u64 w0
  have b1 := bounds_u8 w1
  have b2 := bounds_u8 w2
  refine (built_any a0 a1 a2 a3 b0.1 b0.2 b1.1 b1.2 b2.1 b2.2 tp tq pv qv W hv0 hv1).mono fun e W' ⟨he, bel⟩ => ?_
  subst he
  exact ⟨_, rfl, _, _, _, [], _, [], hW', trodAll_mk1 (shut_bool Ybad.underlying4 _), trodAll_mk4 (shut_int Ybad.underlying30 w0) (shut_int Ybad.underlying5 w1) (shut_int Ybad.underlying5 w2) (shut_int Ybad.underlying3 w3), rfl, bel.frame _, fun h => by cases h⟩

theorem built_over : Rows.LawS5765CBuiltSaid :=
  OpenClaim.holds_of_wide 4 Ybad.f4 rfl rfl rfl rfl rfl rfl rfl ⟨rfl, rfl, rfl, rfl, rfl⟩ rfl rfl rfl rfl rfl (by kernel_rfl) Ybad.func4 (by kernel_rfl)
    (of_decide_eq_true (by kernel_rfl)) (by unfold Func.isWrapper; first | (rw [if_pos (by decide +kernel)]; kernel_rfl) | (rw [if_neg (by decide +kernel)]; exact ⟨rfl, rfl⟩))
    (fun os started H enc _ => built_lifted os started H enc)

/-- THE TIED CARD. -/
theorem built_proved : Rows.LawS5765CBuiltCardSaid :=
  Claim7.holds_tied_plain_at .later [] [.data, .data, .data, .sentinel, .sentinel] true Rows.lawS5765CBuiltCard.stood.harness true
    built_over (fun _ h => by cases h) (by kernel_rfl) (fun _ h => by cases h) lawS5765CBuilt_row_tie rfl ⟨rfl, rfl⟩ (by kernel_rfl) rfl
    (fun f fn hf hfn => by
      obtain rfl : f = 4 := Option.some.inj ((show Ybad.prog.funcNamed Rows.lawS5765CBuiltRow.func = some 4 by kernel_rfl).symm.trans hf) |>.symm
      obtain rfl : fn = Ybad.f4 := (Option.some.inj (Ybad.func4.symm.trans hfn)).symm
      exact ⟨by kernel_rfl, fun j t ht => by
        rw [Ybad.params4] at ht
        have hm : t ∈ [30, 5, 5, 3] := by simpa using Array.mem_of_getElem? ht
        have hall : ([30, 5, 5, 3].all fun u => !Ybad.prog.wantsStandIn u) = true := by kernel_rfl
        exact (show Ybad.prog.wantsStandIn t = false by simpa using List.all_eq_true.1 hall t hm)⟩)
    (by kernel_rfl)
end Go.Proofs.YbulkdojgDoor
