/-
  Seat b5765aD: the walk of 'LawS5765CWhole' (function 3).
-/
import Derived.Test.YbulkdojgDoorParse
import Derived.Test.YbulkdojgDoorModel
namespace Go.Proofs.YbulkdojgDoor
open Go.RowKit
set_option linter.unusedVariables false

theorem list_cons (s : ByteArray) (h : 0 < s.size) : s.data.toList = (s[0]'h) :: s.data.toList.drop 1 := by
  have := bytes_get s 0 h
  simpa using this

theorem extract_tail (s : ByteArray) : (s.extract 1 s.size).data.toList = s.data.toList.drop 1 := by
  have h := Lib.extract_toList s 1 s.size
  rw [ByteArray.toList_eq] at h
  rw [h, Lib.size_eq]
  exact List.take_of_length_le (by simp)

theorem model_plus_tail (c : UInt8) (r : List UInt8) (mx : Int) (h43 : c.toNat = 43) (hr : r ≠ []) : model (c :: r) mx = modelMag r mx := by
  simp [model, h43, hr]

/-- The law's own parser answers as 'parsePeriod' does. -/
theorem model_any (s : ByteArray) (mx : Int) (hs : s.size ≤ 1048576) (w : World) :
    Calls Ybad.prog 6 #[.string s, .int .i64 mx] w fun e w' => e = .returned (.tuple #[.int .i64 (mNum (period s.data.toList mx)), .bool (mOk (period s.data.toList mx))]) ∧ w' = w := by
  rw [← model_eq]
  by_cases h0 : s.size = 0
  · have hl : s.data.toList = [] := List.eq_nil_of_length_eq_zero (by rw [← Lib.size_eq]; exact h0)
    have hm : model s.data.toList mx = none := by rw [hl]; rfl
    rw [hm]
    exact model_empty s mx (beq_iff_eq.2 (by omega)) (by omega) w
  · have hne : 0 < s.size := by omega
    have hl := list_cons s hne
    by_cases h45 : (s[0]'hne).toNat = 45
    · have hm : model s.data.toList mx = none := by rw [hl]; simp [model, h45]
      rw [hm]
      exact model_minus s mx hne (beq_iff_eq.2 (by omega)) w
    have n45 : (((s[0]'hne).toNat : Int) == 45) = false := beq_eq_false_iff_ne.2 (by omega)
    by_cases h43 : (s[0]'hne).toNat = 43
    · have n43 : (((s[0]'hne).toNat : Int) == 43) = true := beq_iff_eq.2 (by omega)
      have ht := extract_tail s
      have hsz : (s.extract 1 s.size).size = s.size - 1 := by
        rw [Lib.size_eq, ht, List.length_drop, ← Lib.size_eq]
      by_cases h1 : s.size = 1
      · have hr : s.data.toList.drop 1 = [] := List.eq_nil_of_length_eq_zero (by rw [List.length_drop, ← Lib.size_eq]; omega)
        have hm : model s.data.toList mx = none := by rw [hl, hr]; simp [model, h43]
        rw [hm]
        exact model_plus_alone s _ mx hne hs (beq_iff_eq.2 (by omega)) rfl n43 n45 w
      · have hr : s.data.toList.drop 1 ≠ [] := fun h => by
          have := congrArg List.length h
          rw [List.length_drop, ← Lib.size_eq] at this
          simp at this
          omega
        have hm : model s.data.toList mx = modelMag (s.extract 1 s.size).data.toList mx := by
          rw [ht]
          exact (congrArg (fun l => model l mx) hl).trans (model_plus_tail _ _ mx h43 hr)
        rw [hm]
        exact model_plus s _ mx (by omega) hne hs (by omega) rfl n43 n45 w
    · have n43 : (((s[0]'hne).toNat : Int) == 43) = false := beq_eq_false_iff_ne.2 (by omega)
      have hm : model s.data.toList mx = modelMag s.data.toList mx := by
        rw [hl]
        simp [model, h43, h45]
      rw [hm]
      exact model_plain s mx hs hne n45 n43 w

set_option maxHeartbeats 1000000 in
set_option maxRecDepth 100000 in
theorem whole_long (s : ByteArray) (mx : Int) (hs : 1048576 < (s.size : Int)) (w : World) :
    Calls Ybad.prog 3 #[.string s, .int .i64 mx] w fun e w' => e = .returned (.bool true) ∧ Below w.heap.size w w' := by
  go_enter Ybad.func3, Ybad.ntmps3
  go_wp2
  go_ret
  exact ⟨rfl, Below.refl _ _⟩

set_option maxHeartbeats 1000000 in
set_option maxRecDepth 100000 in
theorem whole_yes (s : ByteArray) (mx v : Int) (hs : s.size ≤ 1048576) (h : period s.data.toList mx = some v) (w : World) :
    Calls Ybad.prog 3 #[.string s, .int .i64 mx] w fun e w' => e = .returned (.bool true) ∧ Below w.heap.size w w' := by
  have hl : ¬ 1048576 < (s.size : Int) := by omega
  have hm : ∀ w, Calls Ybad.prog 6 #[.string s, .int .i64 mx] w fun e w' => e = .returned (.tuple #[.int .i64 v, .bool true]) ∧ w' = w := by
    intro w
    have := model_any s mx hs w
    rw [h] at this
    exact this
  have HM := Lib.hid hm
  have HP := Lib.hid h
  clear hm h
  go_enter Ybad.func3, Ybad.ntmps3
  go_wp2_with (first | (go_at_call 5; refine (parse_yes s mx v (by omega) HP.out _).mono ?_; rintro e w1 ⟨rfl, hb⟩) | (go_at_call 6; refine (HM.out _).mono ?_; rintro e w2 ⟨rfl, rfl⟩))
  go_ret
  exact ⟨rfl, hb⟩

set_option maxHeartbeats 1000000 in
set_option maxRecDepth 100000 in
theorem whole_no (s : ByteArray) (mx : Int) (hs : s.size ≤ 1048576) (h : period s.data.toList mx = none) (tp tq : TypeId) (p q : Value) (w : World)
    (hv0 : w.var? Ybad.prog "strconv.ErrSyntax" = some #[.iface tp p]) (hv1 : w.var? Ybad.prog "strconv.ErrRange" = some #[.iface tq q]) :
    Calls Ybad.prog 3 #[.string s, .int .i64 mx] w fun e w' => e = .returned (.bool true) ∧ Below w.heap.size w w' := by
  have hl : ¬ 1048576 < (s.size : Int) := by omega
  have hq : ∀ w, (binOp .eql 23 (.iface 28 (.int .i64 37)) (.iface 28 (.int .i64 37))).run Ybad.prog w = .ok (.bool true) w := fun _ => by kernel_rfl
  have hm : ∀ w, Calls Ybad.prog 6 #[.string s, .int .i64 mx] w fun e w' => e = .returned (.tuple #[.int .i64 0, .bool false]) ∧ w' = w := by
    intro w
    have := model_any s mx hs w
    rw [h] at this
    exact this
  have HM := Lib.hid hm
  have HP := Lib.hid h
  have H0 := Lib.hid hv0
  have H1 := Lib.hid hv1
  clear hm h hv0 hv1
  go_enter Ybad.func3, Ybad.ntmps3
  go_wp2_with (first | (go_at_call 5; refine (parse_no s mx (by omega) HP.out tp tq p q _ H0.out H1.out).mono ?_; rintro e w1 ⟨rfl, hb⟩) | (go_at_call 6; refine (HM.out _).mono ?_; rintro e w2 ⟨rfl, rfl⟩))
  go_ret
  exact ⟨rfl, hb⟩

/-- The law's walk, whole. -/
theorem whole_any (s : ByteArray) (mx : Int) (tp tq : TypeId) (p q : Value) (w : World)
    (hv0 : w.var? Ybad.prog "strconv.ErrSyntax" = some #[.iface tp p]) (hv1 : w.var? Ybad.prog "strconv.ErrRange" = some #[.iface tq q]) :
    Calls Ybad.prog 3 #[.string s, .int .i64 mx] w fun e w' => e = .returned (.bool true) ∧ Below w.heap.size w w' := by
  by_cases hs : s.size ≤ 1048576
  · cases h : period s.data.toList mx with
    | none => exact whole_no s mx hs h tp tq p q w hv0 hv1
    | some v => exact whole_yes s mx v hs h w
  · exact whole_long s mx (by omega) w
end Go.Proofs.YbulkdojgDoor
