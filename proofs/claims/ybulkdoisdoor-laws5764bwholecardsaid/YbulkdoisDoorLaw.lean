/-
  The walk of the law (function 3) of seat b5764aD: one theorem a way.
-/
import Derived.Test.YbulkdoisDoorParse
namespace Go.Proofs.YbulkdoisDoor
open Go.RowKit
set_option linter.unusedVariables false

theorem bcell {W w1 : World} (hb : Below W.heap.size W w1) : (∀ b o, b < W.heap.size → w1.cell? ⟨b, o, none⟩ = W.cell? ⟨b, o, none⟩) ∧ (∀ b o, b < W.heap.size → w1.frozen? ⟨b, o, none⟩ = W.frozen? ⟨b, o, none⟩) :=
  ⟨fun b o h => hb.cell (p := ⟨b, o, none⟩) h, fun b o h => hb.frozen (p := ⟨b, o, none⟩) h⟩

set_option maxHeartbeats 1000000 in
set_option maxRecDepth 100000 in
theorem law_0 (sel : Int) (raw : ByteArray) (w : World) (hs0 : 0 ≤ sel) (hs1 : sel ≤ 255) (hsel : sel % 4 = 0) (hw : 0 < w.heap.size) (h1 : w.cell? ⟨0, 3, none⟩ = some (.string ⟨#[101, 97, 112, 45, 97, 107, 97]⟩)) (h2 : w.cell? ⟨0, 6, none⟩ = some (.string ⟨#[101, 97, 112, 45, 97, 107, 97, 45, 112, 114, 105, 109, 101]⟩)) (h3 : w.cell? ⟨0, 9, none⟩ = some (.string ⟨#[101, 97, 112, 45, 115, 105, 109]⟩)) :
    Calls Ybad.prog 3 #[.int .u8 sel, .string raw] w fun e w' => e = .returned (.bool true) ∧ Below w.heap.size w w' := by
  have hq0 : (sel % 4 == 0) = true := by simp [hsel]
  clear hsel
  go_enter Ybad.func3, Ybad.ntmps3
  go_wp2_with (go_at_call 4; refine (parse_aka _ hw h1).mono ?_; rintro e w' ⟨rfl, hb⟩)
  go_ret
  exact ⟨rfl, hb⟩

set_option maxHeartbeats 1000000 in
set_option maxRecDepth 100000 in
theorem law_1 (sel : Int) (raw : ByteArray) (w : World) (hs0 : 0 ≤ sel) (hs1 : sel ≤ 255) (hsel : sel % 4 = 1) (hw : 0 < w.heap.size) (h1 : w.cell? ⟨0, 3, none⟩ = some (.string ⟨#[101, 97, 112, 45, 97, 107, 97]⟩)) (h2 : w.cell? ⟨0, 6, none⟩ = some (.string ⟨#[101, 97, 112, 45, 97, 107, 97, 45, 112, 114, 105, 109, 101]⟩)) (h3 : w.cell? ⟨0, 9, none⟩ = some (.string ⟨#[101, 97, 112, 45, 115, 105, 109]⟩)) :
    Calls Ybad.prog 3 #[.int .u8 sel, .string raw] w fun e w' => e = .returned (.bool true) ∧ Below w.heap.size w w' := by
  have hq0 : (sel % 4 == 0) = false := by simp [hsel]
  have hq1 : (sel % 4 == 1) = true := by simp [hsel]
  clear hsel
  go_enter Ybad.func3, Ybad.ntmps3
  go_wp2_with (go_at_call 4; refine (parse_prime _ hw h1 h2).mono ?_; rintro e w' ⟨rfl, hb⟩)
  go_ret
  exact ⟨rfl, hb⟩

set_option maxHeartbeats 1000000 in
set_option maxRecDepth 100000 in
theorem law_2 (sel : Int) (raw : ByteArray) (w : World) (hs0 : 0 ≤ sel) (hs1 : sel ≤ 255) (hsel : sel % 4 = 2) (hw : 0 < w.heap.size) (h1 : w.cell? ⟨0, 3, none⟩ = some (.string ⟨#[101, 97, 112, 45, 97, 107, 97]⟩)) (h2 : w.cell? ⟨0, 6, none⟩ = some (.string ⟨#[101, 97, 112, 45, 97, 107, 97, 45, 112, 114, 105, 109, 101]⟩)) (h3 : w.cell? ⟨0, 9, none⟩ = some (.string ⟨#[101, 97, 112, 45, 115, 105, 109]⟩)) :
    Calls Ybad.prog 3 #[.int .u8 sel, .string raw] w fun e w' => e = .returned (.bool true) ∧ Below w.heap.size w w' := by
  have hq0 : (sel % 4 == 0) = false := by simp [hsel]
  have hq1 : (sel % 4 == 1) = false := by simp [hsel]
  have hq2 : (sel % 4 == 2) = true := by simp [hsel]
  clear hsel
  go_enter Ybad.func3, Ybad.ntmps3
  go_wp2_with (go_at_call 4; refine (parse_sim _ hw h1 h2 h3).mono ?_; rintro e w' ⟨rfl, hb⟩)
  go_ret
  exact ⟨rfl, hb⟩

set_option maxHeartbeats 1000000 in
set_option maxRecDepth 100000 in
theorem law_3_parse_aka (sel : Int) (w : World) (hs0 : 0 ≤ sel) (hs1 : sel ≤ 255) (hsel : sel % 4 = 3) (hw : 0 < w.heap.size) (h1 : w.cell? ⟨0, 3, none⟩ = some (.string ⟨#[101, 97, 112, 45, 97, 107, 97]⟩)) (h2 : w.cell? ⟨0, 6, none⟩ = some (.string ⟨#[101, 97, 112, 45, 97, 107, 97, 45, 112, 114, 105, 109, 101]⟩)) (h3 : w.cell? ⟨0, 9, none⟩ = some (.string ⟨#[101, 97, 112, 45, 115, 105, 109]⟩)) :
    Calls Ybad.prog 3 #[.int .u8 sel, .string ⟨#[101, 97, 112, 45, 97, 107, 97]⟩] w fun e w' => e = .returned (.bool true) ∧ Below w.heap.size w w' := by
  have hq0 : (sel % 4 == 0) = false := by simp [hsel]
  have hq1 : (sel % 4 == 1) = false := by simp [hsel]
  have hq2 : (sel % 4 == 2) = false := by simp [hsel]
  clear hsel
  go_enter Ybad.func3, Ybad.ntmps3
  go_wp2_with (go_at_call 4; refine (parse_aka _ hw h1).mono ?_; rintro e w' ⟨rfl, hb⟩)
  go_ret
  exact ⟨rfl, hb⟩

set_option maxHeartbeats 1000000 in
set_option maxRecDepth 100000 in
theorem law_3_parse_prime (sel : Int) (w : World) (hs0 : 0 ≤ sel) (hs1 : sel ≤ 255) (hsel : sel % 4 = 3) (hw : 0 < w.heap.size) (h1 : w.cell? ⟨0, 3, none⟩ = some (.string ⟨#[101, 97, 112, 45, 97, 107, 97]⟩)) (h2 : w.cell? ⟨0, 6, none⟩ = some (.string ⟨#[101, 97, 112, 45, 97, 107, 97, 45, 112, 114, 105, 109, 101]⟩)) (h3 : w.cell? ⟨0, 9, none⟩ = some (.string ⟨#[101, 97, 112, 45, 115, 105, 109]⟩)) :
    Calls Ybad.prog 3 #[.int .u8 sel, .string ⟨#[101, 97, 112, 45, 97, 107, 97, 45, 112, 114, 105, 109, 101]⟩] w fun e w' => e = .returned (.bool true) ∧ Below w.heap.size w w' := by
  have hq0 : (sel % 4 == 0) = false := by simp [hsel]
  have hq1 : (sel % 4 == 1) = false := by simp [hsel]
  have hq2 : (sel % 4 == 2) = false := by simp [hsel]
  clear hsel
  go_enter Ybad.func3, Ybad.ntmps3
  go_wp2_with (go_at_call 4; refine (parse_prime _ hw h1 h2).mono ?_; rintro e w' ⟨rfl, hb⟩)
  go_ret
  exact ⟨rfl, hb⟩

set_option maxHeartbeats 1000000 in
set_option maxRecDepth 100000 in
theorem law_3_parse_sim (sel : Int) (w : World) (hs0 : 0 ≤ sel) (hs1 : sel ≤ 255) (hsel : sel % 4 = 3) (hw : 0 < w.heap.size) (h1 : w.cell? ⟨0, 3, none⟩ = some (.string ⟨#[101, 97, 112, 45, 97, 107, 97]⟩)) (h2 : w.cell? ⟨0, 6, none⟩ = some (.string ⟨#[101, 97, 112, 45, 97, 107, 97, 45, 112, 114, 105, 109, 101]⟩)) (h3 : w.cell? ⟨0, 9, none⟩ = some (.string ⟨#[101, 97, 112, 45, 115, 105, 109]⟩)) :
    Calls Ybad.prog 3 #[.int .u8 sel, .string ⟨#[101, 97, 112, 45, 115, 105, 109]⟩] w fun e w' => e = .returned (.bool true) ∧ Below w.heap.size w w' := by
  have hq0 : (sel % 4 == 0) = false := by simp [hsel]
  have hq1 : (sel % 4 == 1) = false := by simp [hsel]
  have hq2 : (sel % 4 == 2) = false := by simp [hsel]
  clear hsel
  go_enter Ybad.func3, Ybad.ntmps3
  go_wp2_with (go_at_call 4; refine (parse_sim _ hw h1 h2 h3).mono ?_; rintro e w' ⟨rfl, hb⟩)
  go_ret
  exact ⟨rfl, hb⟩

set_option maxHeartbeats 1000000 in
set_option maxRecDepth 100000 in
theorem law_3_else (sel : Int) (s : ByteArray) (w : World) (hs0 : 0 ≤ sel) (hs1 : sel ≤ 255) (hsel : sel % 4 = 3) (hw : 0 < w.heap.size) (n1 : (s.toList == [101, 97, 112, 45, 97, 107, 97]) = false) (n2 : (s.toList == [101, 97, 112, 45, 97, 107, 97, 45, 112, 114, 105, 109, 101]) = false) (n3 : (s.toList == [101, 97, 112, 45, 115, 105, 109]) = false) (h1 : w.cell? ⟨0, 3, none⟩ = some (.string ⟨#[101, 97, 112, 45, 97, 107, 97]⟩)) (h2 : w.cell? ⟨0, 6, none⟩ = some (.string ⟨#[101, 97, 112, 45, 97, 107, 97, 45, 112, 114, 105, 109, 101]⟩)) (h3 : w.cell? ⟨0, 9, none⟩ = some (.string ⟨#[101, 97, 112, 45, 115, 105, 109]⟩)) :
    Calls Ybad.prog 3 #[.int .u8 sel, .string s] w fun e w' => e = .returned (.bool true) ∧ Below w.heap.size w w' := by
  have hq0 : (sel % 4 == 0) = false := by simp [hsel]
  have hq1 : (sel % 4 == 1) = false := by simp [hsel]
  have hq2 : (sel % 4 == 2) = false := by simp [hsel]
  clear hsel
  have hta : ∀ (a : Addr) (w : World), (Instr.typeAssert (.iface 27 (.pointer (some a))) 24 27 true).run Ybad.prog w = .ok (.tuple #[.pointer (some a), .bool true]) w := fun _ _ => by kernel_rfl
  go_enter Ybad.func3, Ybad.ntmps3
  go_wp2_with (go_at_call 4; refine (parse_else s _ hw n1 n2 n3 h1 h2 h3).mono ?_; rintro e w1 ⟨N, rfl, hN, c0, c1, c2, c3, hb⟩; refine Hid.out ?_)
  refine Lib.hid ?_
  go_wp2_with (go_at_call 5; refine (names_any _).mono ?_; rintro e w2 ⟨rfl, hb2⟩; refine Hid.out ?_)
  refine Lib.hid ?_
  obtain ⟨hcell, hfr⟩ := bcell hb2
  have d0 := (hcell N 0 hN).trans c0
  have d1 := (hcell N 1 hN).trans c1
  have d2 := (hcell N 2 hN).trans c2
  have d3 := (hcell N 3 hN).trans c3
  have hN2 : N < w2.heap.size := Nat.lt_of_lt_of_le hN hb2.size
  clear hcell hfr c0 c1 c2 c3
  unfold sAka sPrime sSim
  have hcat : (⟨#[119, 97, 110, 116, 32, 111, 110, 101, 32, 111, 102, 32]⟩ : ByteArray) ++ ⟨#[101, 97, 112, 45, 97, 107, 97]⟩ ++ ⟨#[44, 32]⟩ ++ ⟨#[101, 97, 112, 45, 97, 107, 97, 45, 112, 114, 105, 109, 101]⟩ ++ ⟨#[44, 32]⟩ ++ ⟨#[101, 97, 112, 45, 115, 105, 109]⟩
      = ⟨#[119, 97, 110, 116, 32, 111, 110, 101, 32, 111, 102, 32, 101, 97, 112, 45, 97, 107, 97, 44, 32, 101, 97, 112, 45, 97, 107, 97, 45, 112, 114, 105, 109, 101, 44, 32, 101, 97, 112, 45, 115, 105, 109]⟩ := by kernel_rfl
  go_wp2
  go_ret
  exact ⟨rfl, (hb.trans (hb2.mono hb.size)).alloc (Nat.le_trans hb.size hb2.size) _⟩

theorem bytes_ne (s : ByteArray) (l : List UInt8) (h : ¬ s.toList = l) : (s.toList == l) = false := by simp [h]
theorem bytes_eq (s : ByteArray) (l : List UInt8) (h : s.toList = l) : s = ⟨l.toArray⟩ := by
  rw [ByteArray.toList_eq] at h
  subst h
  cases s
  simp

/-- The law's walk, whole: whatever the selector and the text. -/
theorem law_any (sel : Int) (raw : ByteArray) (w : World) (hs0 : 0 ≤ sel) (hs1 : sel ≤ 255) (hw : 0 < w.heap.size) (h1 : w.cell? ⟨0, 3, none⟩ = some (.string ⟨#[101, 97, 112, 45, 97, 107, 97]⟩)) (h2 : w.cell? ⟨0, 6, none⟩ = some (.string ⟨#[101, 97, 112, 45, 97, 107, 97, 45, 112, 114, 105, 109, 101]⟩)) (h3 : w.cell? ⟨0, 9, none⟩ = some (.string ⟨#[101, 97, 112, 45, 115, 105, 109]⟩)) :
    Calls Ybad.prog 3 #[.int .u8 sel, .string raw] w fun e w' => e = .returned (.bool true) ∧ Below w.heap.size w w' := by
  have hc : sel % 4 = 0 ∨ sel % 4 = 1 ∨ sel % 4 = 2 ∨ sel % 4 = 3 := by omega
  rcases hc with hc | hc | hc | hc
  · exact law_0 sel raw w hs0 hs1 hc hw h1 h2 h3
  · exact law_1 sel raw w hs0 hs1 hc hw h1 h2 h3
  · exact law_2 sel raw w hs0 hs1 hc hw h1 h2 h3
  · by_cases e1 : raw.toList = [101, 97, 112, 45, 97, 107, 97]
    · obtain rfl := bytes_eq _ _ e1
      exact law_3_parse_aka sel w hs0 hs1 hc hw h1 h2 h3
    by_cases e2 : raw.toList = [101, 97, 112, 45, 97, 107, 97, 45, 112, 114, 105, 109, 101]
    · obtain rfl := bytes_eq _ _ e2
      exact law_3_parse_prime sel w hs0 hs1 hc hw h1 h2 h3
    by_cases e3 : raw.toList = [101, 97, 112, 45, 115, 105, 109]
    · obtain rfl := bytes_eq _ _ e3
      exact law_3_parse_sim sel w hs0 hs1 hc hw h1 h2 h3
    exact law_3_else sel raw w hs0 hs1 hc hw (bytes_ne _ _ e1) (bytes_ne _ _ e2) (bytes_ne _ _ e3) h1 h2 h3
end Go.Proofs.YbulkdoisDoor
