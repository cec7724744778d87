/-
  Seat b5767aD: the walk of 'LawS5767CWhole' (function 3).
-/
import Derived.Test.YbulkdokiDoorNumber
import Derived.Test.YbulkdokiDoorModel
namespace Go.Proofs.YbulkdokiDoor
open Go.RowKit
set_option linter.unusedVariables false

theorem list_two (s : ByteArray) (h0 : 0 < s.size) (h1 : 1 < s.size) : s.data.toList = (s[0]'h0) :: (s[1]'h1) :: s.data.toList.drop 2 := by
  have e0 := bytes_get s 0 h0
  have e1 := bytes_get s 1 h1
  simp only [List.drop_zero] at e0
  rw [e1] at e0
  exact e0

theorem num1_ne {B : Nat} {l : List UInt8} (h : l ≠ []) : num1 B l = num B 0 l := by simp [num1, h]

theorem ne_of_size {t : ByteArray} (h : 0 < t.size) : t.data.toList ≠ [] := fun e => by
  have := congrArg List.length e
  rw [← Lib.size_eq, List.length_nil] at this
  omega

/-- The law's own reader answers as 'numOf' says. -/
theorem model_any (s : ByteArray) (hs : s.size ≤ 1048576) (w : World) :
    Calls Ybad.prog 6 #[.string s] w fun e w' => e = .returned (.tuple #[.int .u32 (mNum (numOf s.data.toList)), .bool (mOk (numOf s.data.toList))]) ∧ w' = w := by
  by_cases hz : s.size = 0
  · have hl : s.data.toList = [] := List.eq_nil_of_length_eq_zero (by rw [← Lib.size_eq]; exact hz)
    have hm : numOf s.data.toList = none := by rw [hl]; rfl
    rw [hm]
    exact model_empty s (beq_iff_eq.2 (by omega)) (decide_eq_false (by omega)) w
  have h0 : 0 < s.size := by omega
  have hne := ne_of_size h0
  by_cases hs1 : s.size = 1
  · have hm : numOf s.data.toList = num 10 0 s.data.toList := by
      have hlen : s.data.toList.length = 1 := by rw [← Lib.size_eq]; exact hs1
      match hl : s.data.toList, hlen with
      | [c], _ => rfl
    rw [hm]
    exact model_dec_a s hs h0 (by omega) w
  have h1 : 1 < s.size := by omega
  have hl := list_two s h0 h1
  by_cases n0 : (s[0]'h0).toNat = 48
  · by_cases n1 : (s[1]'h1).toNat = 120
    · have hm : numOf s.data.toList = num1 16 (s.extract 2 s.size).data.toList := by
        rw [extract_tail]
        exact (congrArg numOf hl).trans (by simp [numOf, n0, n1])
      rw [hm]
      by_cases ht : (s.extract 2 s.size).size = 0
      · have hr : (s.extract 2 s.size).data.toList = [] := List.eq_nil_of_length_eq_zero (by rw [← Lib.size_eq]; exact ht)
        rw [hr]
        exact model_hex_empty s _ hs h0 h1 (beq_iff_eq.2 (by omega)) rfl (beq_iff_eq.2 (by omega)) (beq_iff_eq.2 (by omega)) w
      · have htp : 0 < (s.extract 2 s.size).size := by omega
        have hts : (s.extract 2 s.size).size ≤ 1048576 := by rw [Lib.size_eq, extract_tail, List.length_drop, ← Lib.size_eq]; omega
        rw [num1_ne (ne_of_size htp)]
        exact model_hex s _ hs hts htp h0 h1 rfl (beq_iff_eq.2 (by omega)) (beq_iff_eq.2 (by omega)) w
    · have hm : numOf s.data.toList = num 10 0 s.data.toList := by
        rw [← num1_ne hne]
        have e : numOf ((s[0]'h0) :: (s[1]'h1) :: s.data.toList.drop 2) = num1 10 ((s[0]'h0) :: (s[1]'h1) :: s.data.toList.drop 2) := by simp [numOf, n1]
        exact (congrArg numOf hl).trans (e.trans (congrArg (num1 10) hl.symm))
      rw [hm]
      exact model_dec_c s hs h0 h1 (beq_iff_eq.2 (by omega)) (beq_eq_false_iff_ne.2 (by omega)) w
  · have hm : numOf s.data.toList = num 10 0 s.data.toList := by
      rw [← num1_ne hne]
      have e : numOf ((s[0]'h0) :: (s[1]'h1) :: s.data.toList.drop 2) = num1 10 ((s[0]'h0) :: (s[1]'h1) :: s.data.toList.drop 2) := by simp [numOf, n0]
      exact (congrArg numOf hl).trans (e.trans (congrArg (num1 10) hl.symm))
    rw [hm]
    exact model_dec_b s hs h0 h1 (beq_eq_false_iff_ne.2 (by omega)) w

set_option maxHeartbeats 1000000 in
set_option maxRecDepth 100000 in
theorem whole_long (s : ByteArray) (hs : 1048576 < (s.size : Int)) (w : World) :
    Calls Ybad.prog 3 #[.string s] w fun e w' => e = .returned (.bool true) ∧ Below w.heap.size w w' := by
  go_enter Ybad.func3, Ybad.ntmps3
  go_wp2
  go_ret
  exact ⟨rfl, Below.refl _ _⟩

theorem model_is (s : ByteArray) (hs : s.size ≤ 1048576) (o : Option Nat) (h : numOf s.data.toList = o) (w : World) :
    Calls Ybad.prog 6 #[.string s] w fun e w' => e = .returned (.tuple #[.int .u32 (mNum o), .bool (mOk o)]) ∧ w' = w := by
  subst h
  exact model_any s hs w

set_option maxHeartbeats 1000000 in
set_option maxRecDepth 100000 in
theorem whole_yes (s : ByteArray) (u : Nat) (hs : s.size ≤ 1048576) (h : spi s.data.toList = some u) (w : World) :
    Calls Ybad.prog 3 #[.string s] w fun e w' => e = .returned (.bool true) ∧ Below w.heap.size w w' := by
  have hl : ¬ 1048576 < (s.size : Int) := by omega
  obtain ⟨h1, h2⟩ := spi_some h
  have i2 : ¬ (u : Int) < 256 := by omega
  have hm : ∀ w, Calls Ybad.prog 6 #[.string s] w fun e w' => e = .returned (.tuple #[.int .u32 u, .bool true]) ∧ w' = w := fun w => model_is s hs (some u) h1 w
  have HM := Lib.hid hm
  have HP := Lib.hid h
  clear hm h h1 h2
  go_enter Ybad.func3, Ybad.ntmps3
  go_wp2_with (first | (go_at_call 5; refine (spi_yes s u (by omega) HP.out _).mono ?_; rintro e w1 ⟨rfl, hb⟩) | (go_at_call 6; refine (HM.out _).mono ?_; rintro e w2 ⟨rfl, rfl⟩))
  go_ret
  exact ⟨rfl, hb⟩

set_option maxHeartbeats 1000000 in
set_option maxRecDepth 100000 in
theorem whole_none (s : ByteArray) (hs : s.size ≤ 1048576) (h : spi s.data.toList = none) (h1 : numOf s.data.toList = none) (ev0 ev1 : Value) (w : World)
    (hv0 : w.cell? ⟨0, 0, none⟩ = some ev0) (he0 : ev0 = .nilIface ∨ ∃ te pe, ev0 = .iface te pe) (hv1 : w.cell? ⟨1, 0, none⟩ = some ev1) (he1 : ev1 = .nilIface ∨ ∃ te pe, ev1 = .iface te pe) :
    Calls Ybad.prog 3 #[.string s] w fun e w' => e = .returned (.bool true) ∧ Below w.heap.size w w' := by
  have hl : ¬ 1048576 < (s.size : Int) := by omega
  have hm : ∀ w, Calls Ybad.prog 6 #[.string s] w fun e w' => e = .returned (.tuple #[.int .u32 0, .bool false]) ∧ w' = w := fun w => model_is s hs none h1 w
  have HM := Lib.hid hm
  have HP := Lib.hid h
  have V0 := Lib.hid hv0
  have V1 := Lib.hid hv1
  have E0 := Lib.hid he0
  have E1 := Lib.hid he1
  clear hm h h1 hv0 hv1 he0 he1
  go_enter Ybad.func3, Ybad.ntmps3
  go_wp2_with (first | (go_at_call 5; refine (spi_no s (by omega) HP.out ev0 ev1 _ V0.out E0.out V1.out E1.out).mono ?_; rintro e w1 ⟨N, rfl, hb⟩) | (go_at_call 6; refine (HM.out _).mono ?_; rintro e w2 ⟨rfl, rfl⟩))
  go_ret
  exact ⟨rfl, hb⟩

set_option maxHeartbeats 1000000 in
set_option maxRecDepth 100000 in
theorem whole_small (s : ByteArray) (u : Nat) (hs : s.size ≤ 1048576) (h : spi s.data.toList = none) (h1 : numOf s.data.toList = some u) (h2 : u < 256) (ev0 ev1 : Value) (w : World)
    (hv0 : w.cell? ⟨0, 0, none⟩ = some ev0) (he0 : ev0 = .nilIface ∨ ∃ te pe, ev0 = .iface te pe) (hv1 : w.cell? ⟨1, 0, none⟩ = some ev1) (he1 : ev1 = .nilIface ∨ ∃ te pe, ev1 = .iface te pe) :
    Calls Ybad.prog 3 #[.string s] w fun e w' => e = .returned (.bool true) ∧ Below w.heap.size w w' := by
  have hl : ¬ 1048576 < (s.size : Int) := by omega
  have i2 : (u : Int) < 256 := by omega
  have hm : ∀ w, Calls Ybad.prog 6 #[.string s] w fun e w' => e = .returned (.tuple #[.int .u32 u, .bool true]) ∧ w' = w := fun w => model_is s hs (some u) h1 w
  have HM := Lib.hid hm
  have HP := Lib.hid h
  have V0 := Lib.hid hv0
  have V1 := Lib.hid hv1
  have E0 := Lib.hid he0
  have E1 := Lib.hid he1
  clear hm h h1 h2 hv0 hv1 he0 he1
  go_enter Ybad.func3, Ybad.ntmps3
  go_wp2_with (first | (go_at_call 5; refine (spi_no s (by omega) HP.out ev0 ev1 _ V0.out E0.out V1.out E1.out).mono ?_; rintro e w1 ⟨N, rfl, hb⟩) | (go_at_call 6; refine (HM.out _).mono ?_; rintro e w2 ⟨rfl, rfl⟩))
  go_ret
  exact ⟨rfl, hb⟩

/-- The law's walk, whole. -/
theorem whole_any (s : ByteArray) (ev0 ev1 : Value) (w : World)
    (hv0 : w.cell? ⟨0, 0, none⟩ = some ev0) (he0 : ev0 = .nilIface ∨ ∃ te pe, ev0 = .iface te pe) (hv1 : w.cell? ⟨1, 0, none⟩ = some ev1) (he1 : ev1 = .nilIface ∨ ∃ te pe, ev1 = .iface te pe) :
    Calls Ybad.prog 3 #[.string s] w fun e w' => e = .returned (.bool true) ∧ Below w.heap.size w w' := by
  by_cases hs : s.size ≤ 1048576
  · cases h : spi s.data.toList with
    | none =>
      rcases spi_none h with h1 | ⟨u, h1, h2⟩
      · exact whole_none s hs h h1 ev0 ev1 w hv0 he0 hv1 he1
      · exact whole_small s u hs h h1 h2 ev0 ev1 w hv0 he0 hv1 he1
    | some u => exact whole_yes s u hs h w
  · exact whole_long s (by omega) w
end Go.Proofs.YbulkdokiDoor
