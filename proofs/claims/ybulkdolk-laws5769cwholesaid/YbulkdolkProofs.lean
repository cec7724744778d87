/-
  Seat b5769a: the row of the law, proved: the frame is the seat's shell, with the builder that hands over the form's own reach (without it the sum of the two lengths might wrap).
-/
import Derived.Test.YbulkdolkRows
import Derived.Test.YbulkdolkLaw
import Derived.WalkKit
import Derived.ProofKit
import Derived.OpenShut
import Derived.ShutString
import Derived.ChangeOld
import Derived.Below
import Derived.SizedLaws
namespace Go.Proofs.Ybulkdolk
open Go.ChangeShapes Go.WideShapes Go.ChangeAt Go.RowKit
open Go.ChangeMaps (open_string shut_string)
set_option linter.unusedVariables false

theorem own : ownKnob Yba.prog.godebug = none := by kernel_rfl
theorem laidOut : laidOutB Yba.prog = true := by kernel_rfl
theorem bytes5 : Yba.prog.bytesOf 5 = 1 := by kernel_rfl

/-- What the walk is told of a slice of bytes that came in: it is nil; or it leads to a row of 'cap' cells, the numbers 'zs' (the first 'len' are its elements), each fitting its kind; and it lies within the form's reach. -/
def IsRow (w : World) (a : Option Addr) (len cap : Nat) (zs : List Int) : Prop :=
  (a = none ∧ len = 0 ∧ cap = 0 ∧ zs = []) ∨
  ∃ x, a = some x ∧ len ≤ cap ∧ zs.length = cap ∧ (∀ i, i < zs.length → w.cell? (x.add i) = some (.int .u8 (zs.getD i 0))) ∧ (∀ n ∈ zs, (Lit.int .u8 n).wf = true) ∧ cap ≤ 140737488351232

theorem row_len {w : World} {a : Option Addr} {len cap : Nat} {zs : List Int} (h : IsRow w a len cap zs) : len ≤ 140737488351232 := by
  rcases h with ⟨_, h, _⟩ | ⟨x, _, hl, _, _, _, hc⟩ <;> omega

theorem row_holds {w : World} {a : Option Addr} {len cap : Nat} {zs : List Int} (h : IsRow w a len cap zs) : ∃ l : List UInt8, l.length = len ∧ Holds w a l := by
  rcases h with ⟨rfl, rfl, _, _⟩ | ⟨x, rfl, hl, hz, hcell, hwf, _⟩
  · exact ⟨[], rfl, fun _ => rfl, fun x hx => by cases hx⟩
  · refine ⟨(zs.take len).map fun z => UInt8.ofNat z.toNat, by simp; omega, (fun h => by cases h), fun y hy j hj => ?_⟩
    cases hy
    have hj' : j < len := by simp at hj; omega
    have hjz : j < zs.length := by omega
    have hb := bounds_u8 (hwf (zs[j]'hjz) (List.getElem_mem hjz))
    rw [hcell j hjz]
    have e : zs.getD j 0 = zs[j]'hjz := by simp [List.getD, hjz]
    rw [e]
    simp only [List.getElem_map, List.getElem_take, UInt8.toNat_ofNat']
    congr 2
    omega

/-- The law's walk, whole. -/
theorem law_any (k off coff dep md : Int) (a1 a2 : Option Addr) (l1 c1 l2 c2 : Nat) (z1 z2 : List Int) (w : World) (h1 : IsRow w a1 l1 c1 z1) (h2 : IsRow w a2 l2 c2 z2) :
    Calls Yba.prog 3 #[.int .i64 k, .slice a1 l1 c1, .slice a2 l2 c2, .int .i64 off, .int .i64 coff, .int .i64 dep, .int .i64 md] w fun e w' => e = .returned (.bool true) ∧ Below w.heap.size w w' := by
  by_cases hg : 1048576 < (l1 : Int) + (l2 : Int)
  · exact law_long k off coff dep md a1 a2 l1 c1 l2 c2 (row_len h1) (row_len h2) hg w
  obtain ⟨l, rfl, hH⟩ := row_holds h1
  by_cases hk : k = 0
  · have hk' : (k != 0) = false := by simp [hk]
    match l, hH, hg with
    | [], hH, hg => exact law_empty k off coff dep md a1 a2 c1 l2 c2 hk' (by simpa using hg) w hH
    | c :: r, hH, hg =>
      cases ha : a1 with
      | none => exact absurd (hH.1 ha) (by simp)
      | some x =>
        obtain ⟨b, o, spot⟩ := x
        have hc0 := hH.2 _ ha 0 (by simp)
        have hs : spot = none := by simpa [Addr.add] using World.cell?_spot hc0
        subst hs
        rw [ha] at hH
        by_cases hx : c.toNat = 0
        · exact law_zero k off coff dep md b o a2 (c :: r) c1 l2 c2 hk' (by simp) hx hg w hH
        · exact law_good k off coff dep md b o a2 (c :: r) c1 l2 c2 hk' (by simp) _ rfl (beq_eq_false_iff_ne.2 (by simp; omega)) hg w hH
  · exact law_list k off coff dep md a1 a2 l c1 l2 c2 (by simp [hk]) hg w hH

set_option maxRecDepth 100000 in
theorem lifted (os : Os) (started : os.Started) (H : Type) (enc : TypeId × Value → H) :
    ReturnsInHanded {} Yba.checked os 3 .any (Rows.lawS5769CWholeSpec.pre6 enc Yba.prog Yba.f3 Rows.lawS5769CWholeRow.domain false) (Rows.lawS5769CWholeSpec.post enc Yba.prog Yba.f3 false true false false) := by
  refine returnsInHanded_of_change_sized (C := Yba.checked) own started (by kernel_rfl) Yba.func3
    (ChangeSpec.witness6 (enc := enc) (C := Yba.checked) false ⟨#[], #[.int .i64 0, .slice none 0 0, .slice none 0 0, .int .i64 0, .int .i64 0, .int .i64 0, .int .i64 0], []⟩ 8 (by kernel_rfl) (by kernel_rfl) (by kernel_rfl) (by kernel_rfl)) ?_
  intro W base args ds gs before hval0 hW _ hsz0 _
  have hsz : (DataW.weightsEach Yba.prog (Yba.f3.params.toList ++ Rows.lawS5769CWholeSpec.plain.varTypes Yba.prog) (ds ++ gs)).all (· ≤ reachBytes) = true := hsz0
  clear hsz0
  have hval : ∀ (j : Nat) t v, Yba.f3.params[j]? = some t → args[j]? = some v → Value.okWide Yba.prog W .any base t v := hval0
  have hW' := hW
  obtain ⟨p, q, hA0, hV, rfl, hfz, hnd⟩ := hW
  have hA : DataW.TrodAll enc Yba.prog W 0 (fun _ => true) true Yba.f3.params.toList args.toList ds p := hA0
  rw [Yba.params3] at hA hval hsz
  obtain ⟨v0, vs0, d0, ds0, p0, q0, hargs, rfl, rfl, h0, r0⟩ := trodAll_cons hA
  obtain ⟨v1, vs1, d1, ds1, p1, q1, rfl, rfl, rfl, h1, r1⟩ := trodAll_cons r0
  obtain ⟨v2, vs2, d2, ds2, p2, q2, rfl, rfl, rfl, h2, r2⟩ := trodAll_cons r1
  obtain ⟨v3, vs3, d3, ds3, p3, q3, rfl, rfl, rfl, h3, r3⟩ := trodAll_cons r2
  obtain ⟨v4, vs4, d4, ds4, p4, q4, rfl, rfl, rfl, h4, r4⟩ := trodAll_cons r3
  obtain ⟨v5, vs5, d5, ds5, p5, q5, rfl, rfl, rfl, h5, r5⟩ := trodAll_cons r4
  obtain ⟨v6, vs6, d6, ds6, p6, q6, rfl, rfl, rfl, h6, r6⟩ := trodAll_cons r5
  obtain ⟨rfl, rfl, rfl⟩ := trodAll_nil r6
  obtain rfl : args = #[v0, v1, v2, v3, v4, v5, v6] := by cases args; simp_all
  obtain ⟨rfl, rfl⟩ := trodVars_none hV
  obtain ⟨a0, rfl, rfl, rfl, w0⟩ := open_int Yba.underlying3 (hval 0 3 v0 rfl rfl) h0
  obtain ⟨a1, len1, cap1, rfl⟩ := okWide_slice Yba.underlying22 (hval 1 22 v1 rfl rfl)
  have k1 := h1
  have lt1 : ∀ x ∈ p1, x.block < W.heap.size := by obtain ⟨m, hm⟩ := k1; exact DataW.trod_lt m _ _ _ hm
  obtain ⟨z1, w1⟩ : ∃ zs, IsRow W a1 len1 cap1 zs := by
    obtain ⟨fuel, hf⟩ := h1
    rcases open_ints Yba.underlying22 Yba.underlying5 (by kernel_rfl) hf with ⟨hcs, _⟩ | ⟨x, l, c, zs, hcs, _, hl, hm, hz, hx, hcell, hwz⟩
    · simp [Value.cells] at hcs
      obtain ⟨rfl, rfl, rfl⟩ := hcs
      exact ⟨[], .inl ⟨rfl, rfl, rfl, rfl⟩⟩
    · simp [Value.cells] at hcs
      obtain ⟨rfl, rfl, rfl⟩ := hcs
      simp only [Prod.mk.injEq] at hx
      have hs := sized_slice hsz (j := 1) (t := 22) (e := 5) rfl (congrArg some hx.1) Yba.underlying22
      rw [bytes5] at hs
      have hz' : zs.length = cap1 := by simpa using hz
      simp only [lits, List.length_map, List.length_take, List.length_drop, reachBytes] at hs
      exact ⟨zs, .inr ⟨_, rfl, hl, hz', hcell, hwz, by omega⟩⟩
  obtain ⟨a2, len2, cap2, rfl⟩ := okWide_slice Yba.underlying22 (hval 2 22 v2 rfl rfl)
  have k2 := h2
  have lt2 : ∀ x ∈ p2, x.block < W.heap.size := by obtain ⟨m, hm⟩ := k2; exact DataW.trod_lt m _ _ _ hm
  obtain ⟨z2, w2⟩ : ∃ zs, IsRow W a2 len2 cap2 zs := by
    obtain ⟨fuel, hf⟩ := h2
    rcases open_ints Yba.underlying22 Yba.underlying5 (by kernel_rfl) hf with ⟨hcs, _⟩ | ⟨x, l, c, zs, hcs, _, hl, hm, hz, hx, hcell, hwz⟩
    · simp [Value.cells] at hcs
      obtain ⟨rfl, rfl, rfl⟩ := hcs
      exact ⟨[], .inl ⟨rfl, rfl, rfl, rfl⟩⟩
    · simp [Value.cells] at hcs
      obtain ⟨rfl, rfl, rfl⟩ := hcs
      simp only [Prod.mk.injEq] at hx
      have hs := sized_slice hsz (j := 2) (t := 22) (e := 5) rfl (congrArg some hx.1) Yba.underlying22
      rw [bytes5] at hs
      have hz' : zs.length = cap2 := by simpa using hz
      simp only [lits, List.length_map, List.length_take, List.length_drop, reachBytes] at hs
      exact ⟨zs, .inr ⟨_, rfl, hl, hz', hcell, hwz, by omega⟩⟩
  obtain ⟨a3, rfl, rfl, rfl, w3⟩ := open_int Yba.underlying3 (hval 3 3 v3 rfl rfl) h3
  obtain ⟨a4, rfl, rfl, rfl, w4⟩ := open_int Yba.underlying3 (hval 4 3 v4 rfl rfl) h4
  obtain ⟨a5, rfl, rfl, rfl, w5⟩ := open_int Yba.underlying3 (hval 5 3 v5 rfl rfl) h5
  obtain ⟨a6, rfl, rfl, rfl, w6⟩ := open_int Yba.underlying3 (hval 6 3 v6 rfl rfl) h6
  clear hA0 hval0
  refine (law_any a0 a3 a4 a5 a6 a1 a2 len1 cap1 len2 cap2 z1 z2 W w1 w2).mono fun e W' ⟨he, bel⟩ => ?_
  subst he
  exact ⟨_, rfl, _, _, _, [], _, [], hW', trodAll_mk1 (shut_bool Yba.underlying4 _), (trodAll_cons_mk (shut_int Yba.underlying3 w0) (trodAll_cons_mk (Below.trod laidOut (by kernel_rfl) (of_decide_eq_true (by kernel_rfl)) k1 bel lt1) (trodAll_cons_mk (Below.trod laidOut (by kernel_rfl) (of_decide_eq_true (by kernel_rfl)) k2 bel lt2) (trodAll_cons_mk (shut_int Yba.underlying3 w3) (trodAll_cons_mk (shut_int Yba.underlying3 w4) (trodAll_cons_mk (shut_int Yba.underlying3 w5) (trodAll_cons_mk (shut_int Yba.underlying3 w6) trodAll_mk0))))))), rfl, bel.frame _, fun h => by cases h⟩

theorem over : Rows.lawS5769CWholeRow.holds Yba.pinned (OpenSpec.ofChange Rows.lawS5769CWholeSpec) :=
  OpenClaim.holds_of_wide 3 Yba.f3 rfl rfl rfl rfl rfl rfl rfl ⟨rfl, rfl, rfl, rfl, rfl⟩ rfl rfl rfl rfl rfl (by kernel_rfl) Yba.func3 (by kernel_rfl)
    (of_decide_eq_true (by kernel_rfl)) (by unfold Func.isWrapper; first | (rw [if_pos (by decide +kernel)]; kernel_rfl) | (rw [if_neg (by decide +kernel)]; exact ⟨rfl, rfl⟩))
    (fun os started H enc _ => lifted os started H enc)

/-- THE STATEMENT. -/
theorem proved : Rows.LawS5769CWholeSaid := over
end Go.Proofs.Ybulkdolk
