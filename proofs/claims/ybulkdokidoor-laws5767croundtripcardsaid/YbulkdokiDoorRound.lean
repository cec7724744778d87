/-
  Seat b5767aD: the walk of 'LawS5767CRoundTrip' (function 4).
-/
import Derived.Test.YbulkdokiDoorNumber
import Derived.Test.YbulkdokiDoorFormat
namespace Go.Proofs.YbulkdokiDoor
open Go.RowKit
set_option linter.unusedVariables false

/-- The law's own writer, whole. -/
theorem format_any (hex up : Bool) (n z : Int) (n0 : 0 ≤ n) (n1 : n ≤ 4294967295) (z0 : 0 ≤ z) (z1 : z ≤ 3) (w : World) :
    Calls Ybad.prog 7 #[.int .u32 n, .bool hex, .bool up, .int .i64 z] w fun e w' => e = .returned (.string ⟨(text hex up z.toNat n.toNat).toArray⟩) ∧ Below w.heap.size w w' := by
  cases hex
  · exact format_dec up n z n0 n1 z0 z1 w
  · cases up
    · exact format_low n z n0 n1 z0 z1 w
    · exact format_up n z n0 n1 z0 z1 w

theorem size_l (m : List UInt8) (h : m.length ≤ 15) : (⟨m.toArray⟩ : ByteArray).size ≤ 281474976710656 := by
  show m.toArray.size ≤ _
  simp
  omega

set_option maxHeartbeats 1000000 in
set_option maxRecDepth 100000 in
theorem round_small (hex up : Bool) (n zs : Int) (n0 : 0 ≤ n) (n1 : n < 256) (z0 : 0 ≤ zs) (z1 : zs ≤ 255) (ev0 ev1 : Value) (w : World)
    (V0 : Hid (w.cell? ⟨0, 0, none⟩ = some ev0)) (E0 : Hid (ev0 = .nilIface ∨ ∃ te pe, ev0 = .iface te pe)) (V1 : Hid (w.cell? ⟨1, 0, none⟩ = some ev1)) (E1 : Hid (ev1 = .nilIface ∨ ∃ te pe, ev1 = .iface te pe)) (hw0 : 0 < w.heap.size) (hw1 : 1 < w.heap.size) :
    Calls Ybad.prog 4 #[.int .u32 n, .bool hex, .bool up, .int .u8 zs] w fun e w' => e = .returned (.bool true) ∧ Below w.heap.size w w' := by
  have ht : spi (text hex up (zs % 4).toNat n.toNat) = none := by
    rw [spi, text_num hex up _ n.toNat (by omega)]
    simp only
    rw [if_pos (by omega)]
  have HT := Lib.hid ht
  have HL := Lib.hid (text_len hex up (zs % 4).toNat n.toNat (by omega))
  clear ht
  go_enter Ybad.func4, Ybad.ntmps4
  go_wp2_with (go_at_call 7; refine (format_any hex up n _ n0 (by omega) (by omega) (by omega) _).mono ?_; rintro e w1 ⟨rfl, hb⟩; refine Hid.out ?_)
  refine Lib.hid ?_
  have W0 := Lib.hid ((hb.cell (p := ⟨0, 0, none⟩) hw0).trans V0.out)
  have W1 := Lib.hid ((hb.cell (p := ⟨1, 0, none⟩) hw1).trans V1.out)
  obtain ⟨m, hm⟩ : ∃ m, m = text hex up (zs % 4).toNat n.toNat := ⟨_, rfl⟩
  rw [← hm]
  have HT2 : Hid (spi m = none) := Lib.hid (by rw [hm]; exact HT.out)
  have HL2 : Hid (m.length ≤ 15) := Lib.hid (by rw [hm]; exact HL.out)
  clear hm HT HL
  go_wp2_with (go_at_call 5; refine (spi_no ⟨m.toArray⟩ (size_l m HL2.out) HT2.out ev0 ev1 _ W0.out E0.out W1.out E1.out).mono ?_; rintro e w2 ⟨N, rfl, hb2⟩)
  go_ret
  exact ⟨rfl, hb.trans (hb2.mono hb.size)⟩

set_option maxHeartbeats 1000000 in
set_option maxRecDepth 100000 in
theorem round_great (hex up : Bool) (n : Nat) (zs : Int) (n0 : ¬ (n : Int) < 256) (n1 : (n : Int) ≤ 4294967295) (z0 : 0 ≤ zs) (z1 : zs ≤ 255) (w : World) :
    Calls Ybad.prog 4 #[.int .u32 n, .bool hex, .bool up, .int .u8 zs] w fun e w' => e = .returned (.bool true) ∧ Below w.heap.size w w' := by
  have ht : spi (text hex up (zs % 4).toNat n) = some n := by
    rw [spi, text_num hex up _ n (by omega)]
    simp only
    rw [if_neg (by omega)]
  have HT := Lib.hid ht
  have HL := Lib.hid (text_len hex up (zs % 4).toNat n (by omega))
  clear ht
  go_enter Ybad.func4, Ybad.ntmps4
  go_wp2_with (go_at_call 7; refine (format_any hex up n _ (by omega) n1 (by omega) (by omega) _).mono ?_; rintro e w1 ⟨rfl, hb⟩; refine Hid.out ?_)
  refine Lib.hid ?_
  obtain ⟨m, hm⟩ : ∃ m, m = text hex up (zs % 4).toNat n := ⟨_, rfl⟩
  rw [← hm]
  have HT2 : Hid (spi m = some n) := Lib.hid (by rw [hm]; exact HT.out)
  have HL2 : Hid (m.length ≤ 15) := Lib.hid (by rw [hm]; exact HL.out)
  clear hm HT HL
  go_wp2_with (go_at_call 5; refine (spi_yes ⟨m.toArray⟩ n (size_l m HL2.out) HT2.out _).mono ?_; rintro e w2 ⟨rfl, hb2⟩)
  go_ret
  exact ⟨rfl, hb.trans (hb2.mono hb.size)⟩

/-- The law's walk, whole. -/
theorem round_any (hex up : Bool) (n zs : Int) (n0 : 0 ≤ n) (n1 : n ≤ 4294967295) (z0 : 0 ≤ zs) (z1 : zs ≤ 255) (ev0 ev1 : Value) (w : World)
    (hv0 : w.cell? ⟨0, 0, none⟩ = some ev0) (he0 : ev0 = .nilIface ∨ ∃ te pe, ev0 = .iface te pe) (hv1 : w.cell? ⟨1, 0, none⟩ = some ev1) (he1 : ev1 = .nilIface ∨ ∃ te pe, ev1 = .iface te pe) :
    Calls Ybad.prog 4 #[.int .u32 n, .bool hex, .bool up, .int .u8 zs] w fun e w' => e = .returned (.bool true) ∧ Below w.heap.size w w' := by
  have g0 : 0 < w.heap.size := World.block_lt_of_cell? w ⟨0, 0, none⟩ hv0
  have g1 : 1 < w.heap.size := World.block_lt_of_cell? w ⟨1, 0, none⟩ hv1
  by_cases h : n < 256
  · exact round_small hex up n zs n0 h z0 z1 ev0 ev1 w (Lib.hid hv0) (Lib.hid he0) (Lib.hid hv1) (Lib.hid he1) g0 g1
  · obtain ⟨m, rfl⟩ : ∃ m : Nat, n = m := ⟨n.toNat, by omega⟩
    exact round_great hex up m zs h n1 z0 z1 w
end Go.Proofs.YbulkdokiDoor
