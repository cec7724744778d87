/-
  Seat b5767aD: the walk of the law's own reader 'zzs5767cmodel' (function 6).
-/
import Derived.Test.YbulkdokiDoorRows
import Derived.Test.YbulkdokiDoorPlain
import Derived.Lib.Strings
import Derived.WalkKit
import Derived.WalkSpells
import Derived.BigCall
import Derived.BigGuard
import Derived.Lib.Hide
namespace Go.Proofs.YbulkdokiDoor
open Go.RowKit
set_option linter.unusedVariables false

def mNum (o : Option Nat) : Int := ((o.getD 0 : Nat) : Int)
def mOk (o : Option Nat) : Bool := o.isSome

theorem bytes_get (t : ByteArray) (k : Nat) (h : k < t.size) : t.data.toList.drop k = t[k] :: t.data.toList.drop (k + 1) := by
  rw [List.drop_eq_getElem_cons (by simpa using h)]
  rfl

set_option maxHeartbeats 4000000 in
set_option maxRecDepth 100000 in
/-- Behind 0x: base 16. -/
theorem model_hex (s t : ByteArray) (hs : s.size ≤ 1048576) (hts : t.size ≤ 1048576) (hne : 0 < t.size) (h0 : 0 < s.size) (h1 : 1 < s.size) (ht : s.extract 2 s.size = t) (n0 : (((s[0]'h0).toNat : Int) == 48) = true) (n1 : (((s[1]'h1).toNat : Int) == 120) = true) (w : World) :
    Calls Ybad.prog 6 #[.string s] w fun e w' => e = .returned (.tuple #[.int .u32 (mNum (num 16 0 t.data.toList)), .bool (mOk (num 16 0 t.data.toList))]) ∧ w' = w := by
  have i2 : (2 : Int) ≤ (s.size : Int) := by omega
  have hz : ((t.size : Int) == 0) = false := beq_eq_false_iff_ne.2 (by omega)
  go_enter Ybad.func6, Ybad.ntmps6
  go_wp2
  go_loop [6, 7] (fun vn vi => ∃ (k acc : Nat) (a : Int), vn = .int .u64 a ∧ vi = .int .i64 k ∧ k ≤ t.size ∧ Hid (a = (acc : Int) ∧ acc ≤ 4294967295 ∧ num 16 0 t.data.toList = num 16 acc (t.data.toList.drop k)))
    (fun _ vi => t.size - (intOf vi).toNat)
  case atStart => exact ⟨0, 0, 0, rfl, rfl, by omega, rfl, by omega, rfl⟩
  case round =>
    obtain ⟨k, acc, a, rfl, rfl, hk, hh⟩ := hrel
    obtain ⟨ha, hacc, hdec⟩ := hh.out
    clear hh
    have a0 : 0 ≤ a := by omega
    have a1 : a ≤ 4294967295 := by omega
    by_cases hkn : k < t.size
    · rw [bytes_get t k hkn] at hdec
      have hc256 : (t[k]'hkn).toNat < 256 := (t[k]'hkn).toNat_lt
      by_cases hdig : 48 ≤ (t[k]'hkn).toNat ∧ (t[k]'hkn).toNat ≤ 57
      · obtain ⟨hd0, hd1⟩ := hdig
        have hd := dig_num (base := 16) hd0 hd1
        by_cases hov : 4294967295 < acc * 16 + ((t[k]'hkn).toNat - 48)
        · have HF := Lib.hid (hdec.trans (num_over hd hov))
          have iov : 4294967295 < a * 16 + (((t[k]'hkn).toNat : Int) - 48) := by omega
          clear hacc hov ha hdec hd
          go_wp2
          go_ret2
          exact ⟨by rw [HF.out]; rfl, rfl⟩
        · have iov : a * 16 + (((t[k]'hkn).toNat : Int) - 48) ≤ 4294967295 := by omega
          have HN : Hid (a * 16 + (((t[k]'hkn).toNat : Int) - 48) = ((acc * 16 + ((t[k]'hkn).toNat - 48) : Nat) : Int) ∧ acc * 16 + ((t[k]'hkn).toNat - 48) ≤ 4294967295 ∧ num 16 0 t.data.toList = num 16 (acc * 16 + ((t[k]'hkn).toNat - 48)) (t.data.toList.drop (k + 1))) := Lib.hid ⟨by omega, by omega, hdec.trans (num_on hd hov)⟩
          clear hacc hov ha hdec hd
          go_wp2
          exact ⟨⟨k + 1, _, _, rfl, by go_num, by omega, HN⟩, by simp [intOf]; omega⟩
      by_cases hlow : 97 ≤ (t[k]'hkn).toNat ∧ (t[k]'hkn).toNat ≤ 102
      · obtain ⟨hd0, hd1⟩ := hlow
        clear hdig
        have hd := dig_low hd0 hd1
        by_cases hov : 4294967295 < acc * 16 + ((t[k]'hkn).toNat - 97 + 10)
        · have HF := Lib.hid (hdec.trans (num_over hd hov))
          have iov : 4294967295 < a * 16 + (((t[k]'hkn).toNat : Int) - 97 + 10) := by omega
          clear hacc hov ha hdec hd
          go_wp2
          go_ret2
          exact ⟨by rw [HF.out]; rfl, rfl⟩
        · have iov : a * 16 + (((t[k]'hkn).toNat : Int) - 97 + 10) ≤ 4294967295 := by omega
          have HN : Hid (a * 16 + (((t[k]'hkn).toNat : Int) - 97 + 10) = ((acc * 16 + ((t[k]'hkn).toNat - 97 + 10) : Nat) : Int) ∧ acc * 16 + ((t[k]'hkn).toNat - 97 + 10) ≤ 4294967295 ∧ num 16 0 t.data.toList = num 16 (acc * 16 + ((t[k]'hkn).toNat - 97 + 10)) (t.data.toList.drop (k + 1))) := Lib.hid ⟨by omega, by omega, hdec.trans (num_on hd hov)⟩
          clear hacc hov ha hdec hd
          go_wp2
          exact ⟨⟨k + 1, _, _, rfl, by go_num, by omega, HN⟩, by simp [intOf]; omega⟩
      by_cases hup : 65 ≤ (t[k]'hkn).toNat ∧ (t[k]'hkn).toNat ≤ 70
      · obtain ⟨hd0, hd1⟩ := hup
        clear hdig hlow
        have hd := dig_up hd0 hd1
        by_cases hov : 4294967295 < acc * 16 + ((t[k]'hkn).toNat - 65 + 10)
        · have HF := Lib.hid (hdec.trans (num_over hd hov))
          have iov : 4294967295 < a * 16 + (((t[k]'hkn).toNat : Int) - 65 + 10) := by omega
          clear hacc hov ha hdec hd
          go_wp2
          go_ret2
          exact ⟨by rw [HF.out]; rfl, rfl⟩
        · have iov : a * 16 + (((t[k]'hkn).toNat : Int) - 65 + 10) ≤ 4294967295 := by omega
          have HN : Hid (a * 16 + (((t[k]'hkn).toNat : Int) - 65 + 10) = ((acc * 16 + ((t[k]'hkn).toNat - 65 + 10) : Nat) : Int) ∧ acc * 16 + ((t[k]'hkn).toNat - 65 + 10) ≤ 4294967295 ∧ num 16 0 t.data.toList = num 16 (acc * 16 + ((t[k]'hkn).toNat - 65 + 10)) (t.data.toList.drop (k + 1))) := Lib.hid ⟨by omega, by omega, hdec.trans (num_on hd hov)⟩
          clear hacc hov ha hdec hd
          go_wp2
          exact ⟨⟨k + 1, _, _, rfl, by go_num, by omega, HN⟩, by simp [intOf]; omega⟩
      · have HF := Lib.hid (hdec.trans (num_bad (dig_none hdig (fun _ => ⟨hlow, hup⟩))))
        have hpart : ((t[k]'hkn).toNat : Int) < 48 ∨ (57 < ((t[k]'hkn).toNat : Int) ∧ ((t[k]'hkn).toNat : Int) < 65) ∨ (70 < ((t[k]'hkn).toNat : Int) ∧ ((t[k]'hkn).toNat : Int) < 97) ∨ 102 < ((t[k]'hkn).toNat : Int) := by omega
        clear hdig hlow hup hacc ha hdec
        rcases hpart with h1 | ⟨h1, h2⟩ | ⟨h1, h2⟩ | h1
        all_goals
          go_wp2
          go_ret2
          exact ⟨by rw [HF.out]; rfl, rfl⟩
    · have hkk : k = t.size := by omega
      subst hkk
      have hF : num 16 0 t.data.toList = some acc := by rw [hdec, List.drop_eq_nil_of_le (by simp)]; rfl
      have HF := Lib.hid hF
      have HA := Lib.hid ha
      clear hacc hF hdec ha hkn
      go_wp2
      go_ret2
      exact ⟨by rw [HF.out, HA.out]; rfl, rfl⟩

set_option maxHeartbeats 4000000 in
set_option maxRecDepth 100000 in
theorem model_dec_a (t : ByteArray) (hs : t.size ≤ 1048576) (hne : 0 < t.size) (h2 : (t.size : Int) < 2) (w : World) :
    Calls Ybad.prog 6 #[.string t] w fun e w' => e = .returned (.tuple #[.int .u32 (mNum (num 10 0 t.data.toList)), .bool (mOk (num 10 0 t.data.toList))]) ∧ w' = w := by
  have hd2 : decide ((2 : Int) ≤ (t.size : Int)) = false := decide_eq_false (by omega)
  have hz : ((t.size : Int) == 0) = false := beq_eq_false_iff_ne.2 (by omega)
  go_enter Ybad.func6, Ybad.ntmps6
  go_wp2
  go_loop [6, 7] (fun vn vi => ∃ (k acc : Nat) (a : Int), vn = .int .u64 a ∧ vi = .int .i64 k ∧ k ≤ t.size ∧ Hid (a = (acc : Int) ∧ acc ≤ 4294967295 ∧ num 10 0 t.data.toList = num 10 acc (t.data.toList.drop k)))
    (fun _ vi => t.size - (intOf vi).toNat)
  case atStart => exact ⟨0, 0, 0, rfl, rfl, by omega, rfl, by omega, rfl⟩
  case round =>
    obtain ⟨k, acc, a, rfl, rfl, hk, hh⟩ := hrel
    obtain ⟨ha, hacc, hdec⟩ := hh.out
    clear hh
    have a0 : 0 ≤ a := by omega
    have a1 : a ≤ 4294967295 := by omega
    by_cases hkn : k < t.size
    · rw [bytes_get t k hkn] at hdec
      have hc256 : (t[k]'hkn).toNat < 256 := (t[k]'hkn).toNat_lt
      by_cases hdig : 48 ≤ (t[k]'hkn).toNat ∧ (t[k]'hkn).toNat ≤ 57
      · obtain ⟨hd0, hd1⟩ := hdig
        have hd := dig_num (base := 10) hd0 hd1
        by_cases hov : 4294967295 < acc * 10 + ((t[k]'hkn).toNat - 48)
        · have HF := Lib.hid (hdec.trans (num_over hd hov))
          have iov : 4294967295 < a * 10 + (((t[k]'hkn).toNat : Int) - 48) := by omega
          clear hacc hov ha hdec hd
          go_wp2
          go_ret2
          exact ⟨by rw [HF.out]; rfl, rfl⟩
        · have iov : a * 10 + (((t[k]'hkn).toNat : Int) - 48) ≤ 4294967295 := by omega
          have HN : Hid (a * 10 + (((t[k]'hkn).toNat : Int) - 48) = ((acc * 10 + ((t[k]'hkn).toNat - 48) : Nat) : Int) ∧ acc * 10 + ((t[k]'hkn).toNat - 48) ≤ 4294967295 ∧ num 10 0 t.data.toList = num 10 (acc * 10 + ((t[k]'hkn).toNat - 48)) (t.data.toList.drop (k + 1))) := Lib.hid ⟨by omega, by omega, hdec.trans (num_on hd hov)⟩
          clear hacc hov ha hdec hd
          go_wp2
          exact ⟨⟨k + 1, _, _, rfl, by go_num, by omega, HN⟩, by simp [intOf]; omega⟩
      · have HF := Lib.hid (hdec.trans (num_bad (dig_none hdig (fun h => by omega))))
        have hpart : ((t[k]'hkn).toNat : Int) < 48 ∨ 57 < ((t[k]'hkn).toNat : Int) := by omega
        clear hdig hacc ha hdec
        rcases hpart with h1 | h1
        all_goals
          go_wp2
          go_ret2
          exact ⟨by rw [HF.out]; rfl, rfl⟩
    · have hkk : k = t.size := by omega
      subst hkk
      have hF : num 10 0 t.data.toList = some acc := by rw [hdec, List.drop_eq_nil_of_le (by simp)]; rfl
      have HF := Lib.hid hF
      have HA := Lib.hid ha
      clear hacc hF hdec ha hkn
      go_wp2
      go_ret2
      exact ⟨by rw [HF.out, HA.out]; rfl, rfl⟩

set_option maxHeartbeats 4000000 in
set_option maxRecDepth 100000 in
theorem model_dec_b (t : ByteArray) (hs : t.size ≤ 1048576) (hne : 0 < t.size) (h1 : 1 < t.size) (n0 : (((t[0]'hne).toNat : Int) == 48) = false) (w : World) :
    Calls Ybad.prog 6 #[.string t] w fun e w' => e = .returned (.tuple #[.int .u32 (mNum (num 10 0 t.data.toList)), .bool (mOk (num 10 0 t.data.toList))]) ∧ w' = w := by
  have i2 : (2 : Int) ≤ (t.size : Int) := by omega
  have hz : ((t.size : Int) == 0) = false := beq_eq_false_iff_ne.2 (by omega)
  go_enter Ybad.func6, Ybad.ntmps6
  go_wp2
  go_loop [6, 7] (fun vn vi => ∃ (k acc : Nat) (a : Int), vn = .int .u64 a ∧ vi = .int .i64 k ∧ k ≤ t.size ∧ Hid (a = (acc : Int) ∧ acc ≤ 4294967295 ∧ num 10 0 t.data.toList = num 10 acc (t.data.toList.drop k)))
    (fun _ vi => t.size - (intOf vi).toNat)
  case atStart => exact ⟨0, 0, 0, rfl, rfl, by omega, rfl, by omega, rfl⟩
  case round =>
    obtain ⟨k, acc, a, rfl, rfl, hk, hh⟩ := hrel
    obtain ⟨ha, hacc, hdec⟩ := hh.out
    clear hh
    have a0 : 0 ≤ a := by omega
    have a1 : a ≤ 4294967295 := by omega
    by_cases hkn : k < t.size
    · rw [bytes_get t k hkn] at hdec
      have hc256 : (t[k]'hkn).toNat < 256 := (t[k]'hkn).toNat_lt
      by_cases hdig : 48 ≤ (t[k]'hkn).toNat ∧ (t[k]'hkn).toNat ≤ 57
      · obtain ⟨hd0, hd1⟩ := hdig
        have hd := dig_num (base := 10) hd0 hd1
        by_cases hov : 4294967295 < acc * 10 + ((t[k]'hkn).toNat - 48)
        · have HF := Lib.hid (hdec.trans (num_over hd hov))
          have iov : 4294967295 < a * 10 + (((t[k]'hkn).toNat : Int) - 48) := by omega
          clear hacc hov ha hdec hd
          go_wp2
          go_ret2
          exact ⟨by rw [HF.out]; rfl, rfl⟩
        · have iov : a * 10 + (((t[k]'hkn).toNat : Int) - 48) ≤ 4294967295 := by omega
          have HN : Hid (a * 10 + (((t[k]'hkn).toNat : Int) - 48) = ((acc * 10 + ((t[k]'hkn).toNat - 48) : Nat) : Int) ∧ acc * 10 + ((t[k]'hkn).toNat - 48) ≤ 4294967295 ∧ num 10 0 t.data.toList = num 10 (acc * 10 + ((t[k]'hkn).toNat - 48)) (t.data.toList.drop (k + 1))) := Lib.hid ⟨by omega, by omega, hdec.trans (num_on hd hov)⟩
          clear hacc hov ha hdec hd
          go_wp2
          exact ⟨⟨k + 1, _, _, rfl, by go_num, by omega, HN⟩, by simp [intOf]; omega⟩
      · have HF := Lib.hid (hdec.trans (num_bad (dig_none hdig (fun h => by omega))))
        have hpart : ((t[k]'hkn).toNat : Int) < 48 ∨ 57 < ((t[k]'hkn).toNat : Int) := by omega
        clear hdig hacc ha hdec
        rcases hpart with h1 | h1
        all_goals
          go_wp2
          go_ret2
          exact ⟨by rw [HF.out]; rfl, rfl⟩
    · have hkk : k = t.size := by omega
      subst hkk
      have hF : num 10 0 t.data.toList = some acc := by rw [hdec, List.drop_eq_nil_of_le (by simp)]; rfl
      have HF := Lib.hid hF
      have HA := Lib.hid ha
      clear hacc hF hdec ha hkn
      go_wp2
      go_ret2
      exact ⟨by rw [HF.out, HA.out]; rfl, rfl⟩

set_option maxHeartbeats 4000000 in
set_option maxRecDepth 100000 in
theorem model_dec_c (t : ByteArray) (hs : t.size ≤ 1048576) (hne : 0 < t.size) (h1 : 1 < t.size) (n0 : (((t[0]'hne).toNat : Int) == 48) = true) (n1 : (((t[1]'h1).toNat : Int) == 120) = false) (w : World) :
    Calls Ybad.prog 6 #[.string t] w fun e w' => e = .returned (.tuple #[.int .u32 (mNum (num 10 0 t.data.toList)), .bool (mOk (num 10 0 t.data.toList))]) ∧ w' = w := by
  have i2 : (2 : Int) ≤ (t.size : Int) := by omega
  have hz : ((t.size : Int) == 0) = false := beq_eq_false_iff_ne.2 (by omega)
  go_enter Ybad.func6, Ybad.ntmps6
  go_wp2
  go_loop [6, 7] (fun vn vi => ∃ (k acc : Nat) (a : Int), vn = .int .u64 a ∧ vi = .int .i64 k ∧ k ≤ t.size ∧ Hid (a = (acc : Int) ∧ acc ≤ 4294967295 ∧ num 10 0 t.data.toList = num 10 acc (t.data.toList.drop k)))
    (fun _ vi => t.size - (intOf vi).toNat)
  case atStart => exact ⟨0, 0, 0, rfl, rfl, by omega, rfl, by omega, rfl⟩
  case round =>
    obtain ⟨k, acc, a, rfl, rfl, hk, hh⟩ := hrel
    obtain ⟨ha, hacc, hdec⟩ := hh.out
    clear hh
    have a0 : 0 ≤ a := by omega
    have a1 : a ≤ 4294967295 := by omega
    by_cases hkn : k < t.size
    · rw [bytes_get t k hkn] at hdec
      have hc256 : (t[k]'hkn).toNat < 256 := (t[k]'hkn).toNat_lt
      by_cases hdig : 48 ≤ (t[k]'hkn).toNat ∧ (t[k]'hkn).toNat ≤ 57
      · obtain ⟨hd0, hd1⟩ := hdig
        have hd := dig_num (base := 10) hd0 hd1
        by_cases hov : 4294967295 < acc * 10 + ((t[k]'hkn).toNat - 48)
        · have HF := Lib.hid (hdec.trans (num_over hd hov))
          have iov : 4294967295 < a * 10 + (((t[k]'hkn).toNat : Int) - 48) := by omega
          clear hacc hov ha hdec hd
          go_wp2
          go_ret2
          exact ⟨by rw [HF.out]; rfl, rfl⟩
        · have iov : a * 10 + (((t[k]'hkn).toNat : Int) - 48) ≤ 4294967295 := by omega
          have HN : Hid (a * 10 + (((t[k]'hkn).toNat : Int) - 48) = ((acc * 10 + ((t[k]'hkn).toNat - 48) : Nat) : Int) ∧ acc * 10 + ((t[k]'hkn).toNat - 48) ≤ 4294967295 ∧ num 10 0 t.data.toList = num 10 (acc * 10 + ((t[k]'hkn).toNat - 48)) (t.data.toList.drop (k + 1))) := Lib.hid ⟨by omega, by omega, hdec.trans (num_on hd hov)⟩
          clear hacc hov ha hdec hd
          go_wp2
          exact ⟨⟨k + 1, _, _, rfl, by go_num, by omega, HN⟩, by simp [intOf]; omega⟩
      · have HF := Lib.hid (hdec.trans (num_bad (dig_none hdig (fun h => by omega))))
        have hpart : ((t[k]'hkn).toNat : Int) < 48 ∨ 57 < ((t[k]'hkn).toNat : Int) := by omega
        clear hdig hacc ha hdec
        rcases hpart with h1 | h1
        all_goals
          go_wp2
          go_ret2
          exact ⟨by rw [HF.out]; rfl, rfl⟩
    · have hkk : k = t.size := by omega
      subst hkk
      have hF : num 10 0 t.data.toList = some acc := by rw [hdec, List.drop_eq_nil_of_le (by simp)]; rfl
      have HF := Lib.hid hF
      have HA := Lib.hid ha
      clear hacc hF hdec ha hkn
      go_wp2
      go_ret2
      exact ⟨by rw [HF.out, HA.out]; rfl, rfl⟩

set_option maxHeartbeats 1000000 in
set_option maxRecDepth 100000 in
theorem model_hex_empty (s t : ByteArray) (hs : s.size ≤ 1048576) (h0 : 0 < s.size) (h1 : 1 < s.size) (hz : ((t.size : Int) == 0) = true) (ht : s.extract 2 s.size = t) (n0 : (((s[0]'h0).toNat : Int) == 48) = true) (n1 : (((s[1]'h1).toNat : Int) == 120) = true) (w : World) :
    Calls Ybad.prog 6 #[.string s] w fun e w' => e = .returned (.tuple #[.int .u32 0, .bool false]) ∧ w' = w := by
  have i2 : (2 : Int) ≤ (s.size : Int) := by omega
  go_enter Ybad.func6, Ybad.ntmps6
  go_wp2
  go_ret2
  exact ⟨rfl, rfl⟩

set_option maxHeartbeats 1000000 in
set_option maxRecDepth 100000 in
theorem model_empty (s : ByteArray) (hz : ((s.size : Int) == 0) = true) (h2 : decide ((2 : Int) ≤ (s.size : Int)) = false) (w : World) :
    Calls Ybad.prog 6 #[.string s] w fun e w' => e = .returned (.tuple #[.int .u32 0, .bool false]) ∧ w' = w := by
  go_enter Ybad.func6, Ybad.ntmps6
  go_wp2
  go_ret2
  exact ⟨rfl, rfl⟩
end Go.Proofs.YbulkdokiDoor
