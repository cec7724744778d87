/-
  Seat b5765aD: the walk of the law's own parser 'zzs5765cmodel' (function 6).
-/
import Derived.Test.YbulkdojgDoorRows
import Derived.Test.YbulkdojgDoorPlain
import Derived.Lib.Strings
import Derived.WalkKit
import Derived.WalkSpells
import Derived.BigCall
import Derived.BigGuard
import Derived.Lib.Hide
namespace Go.Proofs.YbulkdojgDoor
open Go.RowKit
set_option linter.unusedVariables false

def mNum (o : Option Int) : Int := o.getD 0
def mOk (o : Option Int) : Bool := o.isSome

theorem bytes_get (t : ByteArray) (k : Nat) (h : k < t.size) : t.data.toList.drop k = t[k] :: t.data.toList.drop (k + 1) := by
  rw [List.drop_eq_getElem_cons (by simpa using h)]
  rfl

theorem mag_none {l : List UInt8} {mx : Int} (h : modelLoop 0 l = none) : modelMag l mx = none := by simp [modelMag, h]
theorem mag_out {l : List UInt8} {mx : Int} {v : Nat} (h : modelLoop 0 l = some v) (hr : (v : Int) < 1 ∨ mx < (v : Int)) : modelMag l mx = none := by simp [modelMag, h, hr]
theorem mag_in {l : List UInt8} {mx : Int} {v : Nat} (h : modelLoop 0 l = some v) (h1 : ¬ (v : Int) < 1) (h2 : ¬ mx < (v : Int)) : modelMag l mx = some (v : Int) := by
  simp only [modelMag, h]
  rw [if_neg (by omega)]

theorem step_bad {acc : Nat} {c : UInt8} {r : List UInt8} (h : ¬ (48 ≤ c.toNat ∧ c.toNat ≤ 57)) : modelLoop acc (c :: r) = none := by
  rw [modelLoop, if_neg h]
theorem step_over {acc : Nat} {c : UInt8} {r : List UInt8} (h0 : 48 ≤ c.toNat) (h1 : c.toNat ≤ 57) (h : 922337203685477580 < acc ∨ (acc = 922337203685477580 ∧ 7 < c.toNat - 48)) : modelLoop acc (c :: r) = none := by
  rw [modelLoop, if_pos ⟨h0, h1⟩, if_pos h]
theorem step_on {acc : Nat} {c : UInt8} {r : List UInt8} (h0 : 48 ≤ c.toNat) (h1 : c.toNat ≤ 57) (h : ¬ (922337203685477580 < acc ∨ (acc = 922337203685477580 ∧ 7 < c.toNat - 48))) : modelLoop acc (c :: r) = modelLoop (acc * 10 + (c.toNat - 48)) r := by
  rw [modelLoop, if_pos ⟨h0, h1⟩, if_neg h]

set_option maxHeartbeats 4000000 in
set_option maxRecDepth 100000 in
/-- No sign ahead: the digits decide. -/
theorem model_plain (t : ByteArray) (mx : Int) (hs : t.size ≤ 1048576) (hne : 0 < t.size) (n45 : (((t[0]'hne).toNat : Int) == 45) = false) (n43 : (((t[0]'hne).toNat : Int) == 43) = false) (w : World) :
    Calls Ybad.prog 6 #[.string t, .int .i64 mx] w fun e w' => e = .returned (.tuple #[.int .i64 (mNum (modelMag t.data.toList mx)), .bool (mOk (modelMag t.data.toList mx))]) ∧ w' = w := by
  have hz : ((t.size : Int) == 0) = false := beq_eq_false_iff_ne.2 (by omega)
  go_enter Ybad.func6, Ybad.ntmps6
  go_wp2
  go_loop [7, 8] (fun vn vi => ∃ (k acc : Nat) (a : Int), vn = .int .u64 a ∧ vi = .int .i64 k ∧ k ≤ t.size ∧ Hid (a = (acc : Int) ∧ acc < 9223372036854775808 ∧ modelLoop 0 t.data.toList = modelLoop acc (t.data.toList.drop k)))
    (fun _ vi => t.size - (intOf vi).toNat)
  case atStart => exact ⟨0, 0, 0, rfl, rfl, by omega, rfl, by omega, rfl⟩
  case round =>
    obtain ⟨k, acc, a, rfl, rfl, hk, hh⟩ := hrel
    obtain ⟨ha, hacc, hdec⟩ := hh.out
    clear hh
    have a0 : 0 ≤ a := by omega
    have a1 : a < 9223372036854775808 := by omega
    by_cases hkn : k < t.size
    · rw [bytes_get t k hkn] at hdec
      have hc256 : (t[k]'hkn).toNat < 256 := (t[k]'hkn).toNat_lt
      by_cases hdig : 48 ≤ (t[k]'hkn).toNat ∧ (t[k]'hkn).toNat ≤ 57
      · obtain ⟨hd0, hd1⟩ := hdig
        by_cases hcut : 922337203685477580 < acc
        · have HF := Lib.hid (mag_none (mx := mx) (hdec.trans (step_over hd0 hd1 (Or.inl hcut))))
          have icut : 922337203685477580 < a := by omega
          clear hcut hacc ha hdec
          go_wp2
          go_ret2
          exact ⟨by rw [HF.out]; rfl, rfl⟩
        by_cases heq : acc = 922337203685477580
        · have ha' : a = 922337203685477580 := by omega
          by_cases hd7 : 7 < (t[k]'hkn).toNat - 48
          · have HF := Lib.hid (mag_none (mx := mx) (hdec.trans (step_over hd0 hd1 (Or.inr ⟨heq, hd7⟩))))
            have id7 : 7 < ((t[k]'hkn).toNat : Int) - 48 := by omega
            subst ha'
            clear hcut hacc ha hdec heq hd7
            go_wp2
            go_ret2
            exact ⟨by rw [HF.out]; rfl, rfl⟩
          · have hon := step_on (r := t.data.toList.drop (k + 1)) hd0 hd1 (show ¬ (922337203685477580 < acc ∨ (acc = 922337203685477580 ∧ 7 < (t[k]'hkn).toNat - 48)) by omega)
            have HN : Hid (9223372036854775800 + (((t[k]'hkn).toNat : Int) - 48) = ((acc * 10 + ((t[k]'hkn).toNat - 48) : Nat) : Int) ∧ acc * 10 + ((t[k]'hkn).toNat - 48) < 9223372036854775808 ∧ modelLoop 0 t.data.toList = modelLoop (acc * 10 + ((t[k]'hkn).toNat - 48)) (t.data.toList.drop (k + 1))) := Lib.hid ⟨by omega, by omega, hdec.trans hon⟩
            have id7 : ((t[k]'hkn).toNat : Int) - 48 ≤ 7 := by omega
            subst ha'
            clear hcut hacc ha hdec heq hd7 hon
            go_wp2
            exact ⟨⟨k + 1, _, _, rfl, by go_num, by omega, HN⟩, by simp [intOf]; omega⟩
        · have hon := step_on (r := t.data.toList.drop (k + 1)) hd0 hd1 (show ¬ (922337203685477580 < acc ∨ (acc = 922337203685477580 ∧ 7 < (t[k]'hkn).toNat - 48)) by omega)
          have HN : Hid (a * 10 + (((t[k]'hkn).toNat : Int) - 48) = ((acc * 10 + ((t[k]'hkn).toNat - 48) : Nat) : Int) ∧ acc * 10 + ((t[k]'hkn).toNat - 48) < 9223372036854775808 ∧ modelLoop 0 t.data.toList = modelLoop (acc * 10 + ((t[k]'hkn).toNat - 48)) (t.data.toList.drop (k + 1))) := Lib.hid ⟨by omega, by omega, hdec.trans hon⟩
          have icut : a < 922337203685477580 := by omega
          have ieq : (a == 922337203685477580) = false := beq_eq_false_iff_ne.2 (by omega)
          clear hcut hacc ha hdec heq hon a1
          go_wp2
          exact ⟨⟨k + 1, _, _, rfl, by go_num, by omega, HN⟩, by simp [intOf]; omega⟩
      · have HF := Lib.hid (mag_none (mx := mx) (hdec.trans (step_bad hdig)))
        by_cases hlo : (t[k]'hkn).toNat < 48
        · have ilo : ((t[k]'hkn).toNat : Int) < 48 := by omega
          clear hdig hacc ha hdec
          go_wp2
          go_ret2
          exact ⟨by rw [HF.out]; rfl, rfl⟩
        · have ilo : ¬ ((t[k]'hkn).toNat : Int) < 48 := by omega
          have ihi : (57 : Int) < ((t[k]'hkn).toNat : Int) := by omega
          clear hdig hacc ha hdec
          go_wp2
          go_ret2
          exact ⟨by rw [HF.out]; rfl, rfl⟩
    · have hkk : k = t.size := by omega
      subst hkk
      have hF : modelLoop 0 t.data.toList = some acc := by rw [hdec, List.drop_eq_nil_of_le (by simp)]; rfl
      by_cases h1 : (acc : Int) < 1
      · have HF := Lib.hid (mag_out (mx := mx) hF (Or.inl h1))
        have i1 : a < 1 := by omega
        clear hacc ha hdec hF h1 hkn
        go_wp2
        go_ret2
        exact ⟨by rw [HF.out]; rfl, rfl⟩
      by_cases h2 : mx < (acc : Int)
      · have HF := Lib.hid (mag_out (mx := mx) hF (Or.inr h2))
        have i1 : ¬ a < 1 := by omega
        have i2 : mx < a := by omega
        clear hacc ha hdec hF h1 h2 hkn
        go_wp2
        go_ret2
        exact ⟨by rw [HF.out]; rfl, rfl⟩
      · have HF := Lib.hid (mag_in (mx := mx) hF h1 h2)
        have HA := Lib.hid ha
        have i1 : ¬ a < 1 := by omega
        have i2 : ¬ mx < a := by omega
        clear hacc ha hdec hF h1 h2 hkn
        go_wp2
        go_ret2
        exact ⟨by rw [HF.out, ← HA.out]; rfl, rfl⟩

set_option maxHeartbeats 4000000 in
set_option maxRecDepth 100000 in
/-- A plus sign ahead: what stands behind it decides. -/
theorem model_plus (s t : ByteArray) (mx : Int) (hs : t.size ≤ 1048576) (hsne : 0 < s.size) (hs1 : s.size ≤ 1048576) (hne : 0 < t.size) (ht : s.extract 1 s.size = t) (n43 : (((s[0]'hsne).toNat : Int) == 43) = true) (n45 : (((s[0]'hsne).toNat : Int) == 45) = false) (w : World) :
    Calls Ybad.prog 6 #[.string s, .int .i64 mx] w fun e w' => e = .returned (.tuple #[.int .i64 (mNum (modelMag t.data.toList mx)), .bool (mOk (modelMag t.data.toList mx))]) ∧ w' = w := by
  have hz : ((t.size : Int) == 0) = false := beq_eq_false_iff_ne.2 (by omega)
  have i1 : (1 : Int) ≤ (s.size : Int) := by omega
  go_enter Ybad.func6, Ybad.ntmps6
  go_wp2
  go_loop [7, 8] (fun vn vi => ∃ (k acc : Nat) (a : Int), vn = .int .u64 a ∧ vi = .int .i64 k ∧ k ≤ t.size ∧ Hid (a = (acc : Int) ∧ acc < 9223372036854775808 ∧ modelLoop 0 t.data.toList = modelLoop acc (t.data.toList.drop k)))
    (fun _ vi => t.size - (intOf vi).toNat)
  case atStart => exact ⟨0, 0, 0, rfl, rfl, by omega, rfl, by omega, rfl⟩
  case round =>
    obtain ⟨k, acc, a, rfl, rfl, hk, hh⟩ := hrel
    obtain ⟨ha, hacc, hdec⟩ := hh.out
    clear hh
    have a0 : 0 ≤ a := by omega
    have a1 : a < 9223372036854775808 := by omega
    by_cases hkn : k < t.size
    · rw [bytes_get t k hkn] at hdec
      have hc256 : (t[k]'hkn).toNat < 256 := (t[k]'hkn).toNat_lt
      by_cases hdig : 48 ≤ (t[k]'hkn).toNat ∧ (t[k]'hkn).toNat ≤ 57
      · obtain ⟨hd0, hd1⟩ := hdig
        by_cases hcut : 922337203685477580 < acc
        · have HF := Lib.hid (mag_none (mx := mx) (hdec.trans (step_over hd0 hd1 (Or.inl hcut))))
          have icut : 922337203685477580 < a := by omega
          clear hcut hacc ha hdec
          go_wp2
          go_ret2
          exact ⟨by rw [HF.out]; rfl, rfl⟩
        by_cases heq : acc = 922337203685477580
        · have ha' : a = 922337203685477580 := by omega
          by_cases hd7 : 7 < (t[k]'hkn).toNat - 48
          · have HF := Lib.hid (mag_none (mx := mx) (hdec.trans (step_over hd0 hd1 (Or.inr ⟨heq, hd7⟩))))
            have id7 : 7 < ((t[k]'hkn).toNat : Int) - 48 := by omega
            subst ha'
            clear hcut hacc ha hdec heq hd7
            go_wp2
            go_ret2
            exact ⟨by rw [HF.out]; rfl, rfl⟩
          · have hon := step_on (r := t.data.toList.drop (k + 1)) hd0 hd1 (show ¬ (922337203685477580 < acc ∨ (acc = 922337203685477580 ∧ 7 < (t[k]'hkn).toNat - 48)) by omega)
            have HN : Hid (9223372036854775800 + (((t[k]'hkn).toNat : Int) - 48) = ((acc * 10 + ((t[k]'hkn).toNat - 48) : Nat) : Int) ∧ acc * 10 + ((t[k]'hkn).toNat - 48) < 9223372036854775808 ∧ modelLoop 0 t.data.toList = modelLoop (acc * 10 + ((t[k]'hkn).toNat - 48)) (t.data.toList.drop (k + 1))) := Lib.hid ⟨by omega, by omega, hdec.trans hon⟩
            have id7 : ((t[k]'hkn).toNat : Int) - 48 ≤ 7 := by omega
            subst ha'
            clear hcut hacc ha hdec heq hd7 hon
            go_wp2
            exact ⟨⟨k + 1, _, _, rfl, by go_num, by omega, HN⟩, by simp [intOf]; omega⟩
        · have hon := step_on (r := t.data.toList.drop (k + 1)) hd0 hd1 (show ¬ (922337203685477580 < acc ∨ (acc = 922337203685477580 ∧ 7 < (t[k]'hkn).toNat - 48)) by omega)
          have HN : Hid (a * 10 + (((t[k]'hkn).toNat : Int) - 48) = ((acc * 10 + ((t[k]'hkn).toNat - 48) : Nat) : Int) ∧ acc * 10 + ((t[k]'hkn).toNat - 48) < 9223372036854775808 ∧ modelLoop 0 t.data.toList = modelLoop (acc * 10 + ((t[k]'hkn).toNat - 48)) (t.data.toList.drop (k + 1))) := Lib.hid ⟨by omega, by omega, hdec.trans hon⟩
          have icut : a < 922337203685477580 := by omega
          have ieq : (a == 922337203685477580) = false := beq_eq_false_iff_ne.2 (by omega)
          clear hcut hacc ha hdec heq hon a1
          go_wp2
          exact ⟨⟨k + 1, _, _, rfl, by go_num, by omega, HN⟩, by simp [intOf]; omega⟩
      · have HF := Lib.hid (mag_none (mx := mx) (hdec.trans (step_bad hdig)))
        by_cases hlo : (t[k]'hkn).toNat < 48
        · have ilo : ((t[k]'hkn).toNat : Int) < 48 := by omega
          clear hdig hacc ha hdec
          go_wp2
          go_ret2
          exact ⟨by rw [HF.out]; rfl, rfl⟩
        · have ilo : ¬ ((t[k]'hkn).toNat : Int) < 48 := by omega
          have ihi : (57 : Int) < ((t[k]'hkn).toNat : Int) := by omega
          clear hdig hacc ha hdec
          go_wp2
          go_ret2
          exact ⟨by rw [HF.out]; rfl, rfl⟩
    · have hkk : k = t.size := by omega
      subst hkk
      have hF : modelLoop 0 t.data.toList = some acc := by rw [hdec, List.drop_eq_nil_of_le (by simp)]; rfl
      by_cases h1 : (acc : Int) < 1
      · have HF := Lib.hid (mag_out (mx := mx) hF (Or.inl h1))
        have i1 : a < 1 := by omega
        clear hacc ha hdec hF h1 hkn
        go_wp2
        go_ret2
        exact ⟨by rw [HF.out]; rfl, rfl⟩
      by_cases h2 : mx < (acc : Int)
      · have HF := Lib.hid (mag_out (mx := mx) hF (Or.inr h2))
        have i1 : ¬ a < 1 := by omega
        have i2 : mx < a := by omega
        clear hacc ha hdec hF h1 h2 hkn
        go_wp2
        go_ret2
        exact ⟨by rw [HF.out]; rfl, rfl⟩
      · have HF := Lib.hid (mag_in (mx := mx) hF h1 h2)
        have HA := Lib.hid ha
        have i1 : ¬ a < 1 := by omega
        have i2 : ¬ mx < a := by omega
        clear hacc ha hdec hF h1 h2 hkn
        go_wp2
        go_ret2
        exact ⟨by rw [HF.out, ← HA.out]; rfl, rfl⟩

set_option maxHeartbeats 1000000 in
set_option maxRecDepth 100000 in
/-- A plus sign alone. -/
theorem model_plus_alone (s t : ByteArray) (mx : Int) (hsne : 0 < s.size) (hs1 : s.size ≤ 1048576) (hte : ((t.size : Int) == 0) = true) (ht : s.extract 1 s.size = t) (n43 : (((s[0]'hsne).toNat : Int) == 43) = true) (n45 : (((s[0]'hsne).toNat : Int) == 45) = false) (w : World) :
    Calls Ybad.prog 6 #[.string s, .int .i64 mx] w fun e w' => e = .returned (.tuple #[.int .i64 0, .bool false]) ∧ w' = w := by
  have i1 : (1 : Int) ≤ (s.size : Int) := by omega
  go_enter Ybad.func6, Ybad.ntmps6
  go_wp2
  go_ret2
  exact ⟨rfl, rfl⟩

set_option maxHeartbeats 1000000 in
set_option maxRecDepth 100000 in
theorem model_minus (s : ByteArray) (mx : Int) (hsne : 0 < s.size) (n45 : (((s[0]'hsne).toNat : Int) == 45) = true) (w : World) :
    Calls Ybad.prog 6 #[.string s, .int .i64 mx] w fun e w' => e = .returned (.tuple #[.int .i64 0, .bool false]) ∧ w' = w := by
  go_enter Ybad.func6, Ybad.ntmps6
  go_wp2
  go_ret2
  exact ⟨rfl, rfl⟩

set_option maxHeartbeats 1000000 in
set_option maxRecDepth 100000 in
theorem model_empty (s : ByteArray) (mx : Int) (h0 : ((s.size : Int) == 0) = true) (i0 : ¬ (0 : Int) < (s.size : Int)) (w : World) :
    Calls Ybad.prog 6 #[.string s, .int .i64 mx] w fun e w' => e = .returned (.tuple #[.int .i64 0, .bool false]) ∧ w' = w := by
  go_enter Ybad.func6, Ybad.ntmps6
  go_wp2
  go_ret2
  exact ⟨rfl, rfl⟩
end Go.Proofs.YbulkdojgDoor
