/-
  Seat b5767aD: the walks of 'parseNumber' (function 8) and 'parseSPI' (function 5).
-/
import Derived.Test.YbulkdokiDoorUint
import Derived.WalkSpells
namespace Go.Proofs.YbulkdokiDoor
open Go.RowKit
set_option linter.unusedVariables false

def sSpi : ByteArray := ⟨#[115, 112, 105]⟩

/-- Does the text begin with 0x? -/
def ox (l : List UInt8) : Bool := l.take 2 == [48, 120]

set_option maxHeartbeats 1000000 in
set_option maxRecDepth 100000 in
theorem cut_yes (s : ByteArray) (h2 : (2 : Int) ≤ (s.size : Int)) (hp : ((s.extract 0 2).toList == [48, 120]) = true) (w : World) :
    Calls Ybad.prog 10 #[.string s, .string ⟨#[48, 120]⟩] w fun e w' => e = .returned (.tuple #[.string (s.extract 2 s.size), .bool true]) ∧ w' = w := by
  go_enter Ybad.func10, Ybad.ntmps10
  go_wp2
  go_ret2
  exact ⟨rfl, rfl⟩

set_option maxHeartbeats 1000000 in
set_option maxRecDepth 100000 in
theorem cut_no (s : ByteArray) (h2 : (2 : Int) ≤ (s.size : Int)) (hp : ((s.extract 0 2).toList == [48, 120]) = false) (w : World) :
    Calls Ybad.prog 10 #[.string s, .string ⟨#[48, 120]⟩] w fun e w' => e = .returned (.tuple #[.string s, .bool false]) ∧ w' = w := by
  go_enter Ybad.func10, Ybad.ntmps10
  go_wp2
  go_ret2
  exact ⟨rfl, rfl⟩

set_option maxHeartbeats 1000000 in
set_option maxRecDepth 100000 in
theorem cut_short (s : ByteArray) (h2 : ¬ (2 : Int) ≤ (s.size : Int)) (w : World) :
    Calls Ybad.prog 10 #[.string s, .string ⟨#[48, 120]⟩] w fun e w' => e = .returned (.tuple #[.string s, .bool false]) ∧ w' = w := by
  have hd : decide ((2 : Int) ≤ (s.size : Int)) = false := decide_eq_false h2
  go_enter Ybad.func10, Ybad.ntmps10
  go_wp2
  go_ret2
  exact ⟨rfl, rfl⟩

theorem extract_take (s : ByteArray) : (s.extract 0 2).toList = s.data.toList.take 2 := by
  rw [Lib.extract_toList]
  simp

theorem extract_tail (s : ByteArray) : (s.extract 2 s.size).data.toList = s.data.toList.drop 2 := by
  have h := Lib.extract_toList s 2 s.size
  rw [ByteArray.toList_eq] at h
  rw [h, Lib.size_eq]
  exact List.take_of_length_le (by simp)

theorem cut_any_yes (s : ByteArray) (h : ox s.data.toList = true) (w : World) :
    Calls Ybad.prog 10 #[.string s, .string ⟨#[48, 120]⟩] w fun e w' => e = .returned (.tuple #[.string (s.extract 2 s.size), .bool true]) ∧ w' = w := by
  have hp : ((s.extract 0 2).toList == [48, 120]) = true := by rw [extract_take]; exact h
  have h2 : (2 : Int) ≤ (s.size : Int) := by
    have e : s.data.toList.take 2 = [48, 120] := by simpa [ox] using h
    have := congrArg List.length e
    rw [List.length_take, ← Lib.size_eq] at this
    simp at this
    omega
  exact cut_yes s h2 hp w

theorem cut_any_no (s : ByteArray) (h : ox s.data.toList = false) (w : World) :
    Calls Ybad.prog 10 #[.string s, .string ⟨#[48, 120]⟩] w fun e w' => e = .returned (.tuple #[.string s, .bool false]) ∧ w' = w := by
  by_cases h2 : (2 : Int) ≤ (s.size : Int)
  · exact cut_no s h2 (by rw [extract_take]; exact h) w
  · exact cut_short s h2 w

theorem numOf_yes {l : List UInt8} (h : ox l = true) : numOf l = num1 16 (l.drop 2) := by
  match l, h with
  | [], h => simp [ox] at h
  | [c], h => simp [ox] at h
  | c :: d :: r, h =>
    have h' : c = 48 ∧ d = 120 := by simpa [ox] using h
    obtain ⟨rfl, rfl⟩ := h'
    simp [numOf]

theorem numOf_no {l : List UInt8} (h : ox l = false) : numOf l = num1 10 l := by
  match l, h with
  | [], h => rfl
  | [c], h => rfl
  | c :: d :: r, h =>
    have hn : ¬ (c.toNat = 48 ∧ d.toNat = 120) := fun ⟨h1, h2⟩ => by
      have e1 : c = 48 := UInt8.toNat_inj.1 h1
      have e2 : d = 120 := UInt8.toNat_inj.1 h2
      subst e1; subst e2
      simp [ox] at h
    simp [numOf, hn]

set_option maxHeartbeats 1000000 in
set_option maxRecDepth 100000 in
theorem number_ok (s : ByteArray) (u : Nat) (hlim : s.size ≤ 281474976710656) (h : numOf s.data.toList = some u) (w : World) :
    Calls Ybad.prog 8 #[.string sSpi, .string s] w fun e w' => e = .returned (.tuple #[.int .u32 u, .nilIface]) ∧ Below w.heap.size w w' := by
  cases hx : ox s.data.toList with
  | true =>
    rw [numOf_yes hx, ← extract_tail] at h
    have hsz : (s.extract 2 s.size).size ≤ 281474976710656 := by rw [Lib.size_eq, extract_tail, List.length_drop, ← Lib.size_eq]; omega
    have hu : u ≤ 4294967295 := num1_le h
    have H := Lib.hid h
    have X := Lib.hid hx
    have Z := Lib.hid hsz
    clear h hx hsz
    go_enter Ybad.func8, Ybad.ntmps8
    go_wp2_with (first | (go_at_call 10; refine (cut_any_yes s X.out _).mono ?_; rintro e w' ⟨rfl, rfl⟩) | (go_at_call 11; refine (pub16_ok _ Z.out u H.out _).mono ?_; rintro e w1 ⟨rfl, hb⟩))
    go_ret2
    exact ⟨rfl, hb⟩
  | false =>
    rw [numOf_no hx] at h
    have hu : u ≤ 4294967295 := num1_le h
    have H := Lib.hid h
    have X := Lib.hid hx
    clear h hx
    go_enter Ybad.func8, Ybad.ntmps8
    go_wp2_with (first | (go_at_call 10; refine (cut_any_no s X.out _).mono ?_; rintro e w' ⟨rfl, rfl⟩) | (go_at_call 11; refine (pub10_ok _ hlim u H.out _).mono ?_; rintro e w1 ⟨rfl, hb⟩))
    go_ret2
    exact ⟨rfl, hb⟩

set_option maxHeartbeats 1000000 in
set_option maxRecDepth 100000 in
theorem number_err (s : ByteArray) (hlim : s.size ≤ 281474976710656) (h : numOf s.data.toList = none) (ev0 ev1 : Value) (w : World)
    (hv0 : w.cell? ⟨0, 0, none⟩ = some ev0) (he0 : ev0 = .nilIface ∨ ∃ te pe, ev0 = .iface te pe) (hv1 : w.cell? ⟨1, 0, none⟩ = some ev1) (he1 : ev1 = .nilIface ∨ ∃ te pe, ev1 = .iface te pe) :
    Calls Ybad.prog 8 #[.string sSpi, .string s] w fun e w' => ∃ N, e = .returned (.tuple #[.int .u32 0, .iface 40 (.pointer (some ⟨N, 0, none⟩))]) ∧ Below w.heap.size w w' := by
  have V0 := Lib.hid hv0
  have V1 := Lib.hid hv1
  have E0 := Lib.hid he0
  have E1 := Lib.hid he1
  clear hv0 hv1 he0 he1
  cases hx : ox s.data.toList with
  | true =>
    rw [numOf_yes hx, ← extract_tail] at h
    have hsz : (s.extract 2 s.size).size ≤ 281474976710656 := by rw [Lib.size_eq, extract_tail, List.length_drop, ← Lib.size_eq]; omega
    have H := Lib.hid h
    have X := Lib.hid hx
    have Z := Lib.hid hsz
    clear h hx hsz
    unfold sSpi
    go_enter Ybad.func8, Ybad.ntmps8
    go_wp2_with (first | (go_at_call 10; refine (cut_any_yes s X.out _).mono ?_; rintro e w' ⟨rfl, rfl⟩) | (go_at_call 11; refine (pub16_err _ Z.out H.out ev0 ev1 _ V0.out E0.out V1.out E1.out).mono ?_; rintro e w1 ⟨n, N, rfl, hb⟩) | go_in)
    go_ret2
    exact ⟨_, rfl, hb.alloc hb.size _⟩
  | false =>
    rw [numOf_no hx] at h
    have H := Lib.hid h
    have X := Lib.hid hx
    clear h hx
    unfold sSpi
    go_enter Ybad.func8, Ybad.ntmps8
    go_wp2_with (first | (go_at_call 10; refine (cut_any_no s X.out _).mono ?_; rintro e w' ⟨rfl, rfl⟩) | (go_at_call 11; refine (pub10_err _ hlim H.out ev0 ev1 _ V0.out E0.out V1.out E1.out).mono ?_; rintro e w1 ⟨n, N, rfl, hb⟩) | go_in)
    go_ret2
    exact ⟨_, rfl, hb.alloc hb.size _⟩

/-- What 'parseSPI' takes: a number of at least 256. -/
def spi (l : List UInt8) : Option Nat :=
  match numOf l with
  | some u => if u < 256 then none else some u
  | none => none

theorem spi_some {l : List UInt8} {u : Nat} (h : spi l = some u) : numOf l = some u ∧ 256 ≤ u := by
  unfold spi at h
  cases e : numOf l with
  | none => rw [e] at h; cases h
  | some v =>
    rw [e] at h
    simp only at h
    split at h
    · cases h
    · injection h with h
      subst h
      exact ⟨rfl, by omega⟩

theorem spi_none {l : List UInt8} (h : spi l = none) : numOf l = none ∨ ∃ u, numOf l = some u ∧ u < 256 := by
  unfold spi at h
  cases e : numOf l with
  | none => exact Or.inl rfl
  | some v =>
    rw [e] at h
    simp only at h
    split at h
    · exact Or.inr ⟨v, rfl, by assumption⟩
    · cases h

set_option maxHeartbeats 1000000 in
set_option maxRecDepth 100000 in
theorem spi_yes (s : ByteArray) (u : Nat) (hlim : s.size ≤ 281474976710656) (h : spi s.data.toList = some u) (w : World) :
    Calls Ybad.prog 5 #[.string s] w fun e w' => e = .returned (.tuple #[.int .u32 u, .nilIface]) ∧ Below w.heap.size w w' := by
  obtain ⟨h1, h2⟩ := spi_some h
  have H := Lib.hid h1
  have i2 : ¬ (u : Int) < 256 := by omega
  clear h h1 h2
  go_enter Ybad.func5, Ybad.ntmps5
  go_wp2_with (go_at_call 8; refine (number_ok s u hlim H.out _).mono ?_; rintro e w1 ⟨rfl, hb⟩)
  go_ret2
  exact ⟨rfl, hb⟩

set_option maxHeartbeats 1000000 in
set_option maxRecDepth 100000 in
theorem spi_no (s : ByteArray) (hlim : s.size ≤ 281474976710656) (h : spi s.data.toList = none) (ev0 ev1 : Value) (w : World)
    (hv0 : w.cell? ⟨0, 0, none⟩ = some ev0) (he0 : ev0 = .nilIface ∨ ∃ te pe, ev0 = .iface te pe) (hv1 : w.cell? ⟨1, 0, none⟩ = some ev1) (he1 : ev1 = .nilIface ∨ ∃ te pe, ev1 = .iface te pe) :
    Calls Ybad.prog 5 #[.string s] w fun e w' => ∃ N, e = .returned (.tuple #[.int .u32 0, .iface 40 (.pointer (some ⟨N, 0, none⟩))]) ∧ Below w.heap.size w w' := by
  have V0 := Lib.hid hv0
  have V1 := Lib.hid hv1
  have E0 := Lib.hid he0
  have E1 := Lib.hid he1
  clear hv0 hv1 he0 he1
  rcases spi_none h with h1 | ⟨u, h1, h2⟩
  · have H := Lib.hid h1
    clear h h1
    go_enter Ybad.func5, Ybad.ntmps5
    go_wp2_with (first | (go_at_call 8; refine (number_err s hlim H.out ev0 ev1 _ V0.out E0.out V1.out E1.out).mono ?_; rintro e w1 ⟨N, rfl, hb⟩) | go_in)
    go_ret2
    exact ⟨_, rfl, hb⟩
  · have H := Lib.hid h1
    have i2 : (u : Int) < 256 := by omega
    clear h h1 h2
    go_enter Ybad.func5, Ybad.ntmps5
    go_wp2_with (first | (go_at_call 8; refine (number_ok s u hlim H.out _).mono ?_; rintro e w1 ⟨rfl, hb⟩) | go_in)
    go_ret2
    exact ⟨_, rfl, hb.alloc hb.size _⟩
end Go.Proofs.YbulkdokiDoor
