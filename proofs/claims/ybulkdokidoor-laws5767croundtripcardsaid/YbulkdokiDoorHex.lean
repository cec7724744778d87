/-
  Seat b5767aD: the walk of internal/strconv.ParseUint (function 13) at base 16 and 32 bits: the shelf has base 10 alone; after the shelf's own walk at base 10.
-/
import Derived.Test.YbulkdokiDoorRows
import Derived.Test.YbulkdokiDoorPlain
import Derived.Test.YbulkdokiDoorShelf
import Derived.Lib.Strings
import Derived.Lib.Walk
import Derived.Lib.ConvBytes
import Derived.Lib.Hide
import Derived.Laws.Strings3
import Derived.Laws.Closers25
import Derived.Laws.Closers25b
import Derived.WalkKit
import Derived.BigCall
import Derived.BigGuard
namespace Go.Proofs.YbulkdokiDoor
open Go.RowKit Go.Shelf
set_option linter.unusedVariables false

/-- How the parse ends: the number and no error; or an error of the package's own make, by its number. -/
def HexEnd (o : Option Nat) (e : Ending) : Prop :=
  match o with
  | some u => e = .returned (.tuple #[.int .u64 u, .nilIface])
  | none => e = .returned (.tuple #[.int .u64 0, .iface 45 (.int .i64 2)]) ∨ e = .returned (.tuple #[.int .u64 4294967295, .iface 45 (.int .i64 1)])

theorem lower_any (c : Int) (w : World) : Calls Ybad.prog 16 #[.int .u8 c] w fun e w' => e = .returned (.int .u8 (bits .or .u8 c 32)) ∧ w' = w := by
  go_enter Ybad.func16, Ybad.ntmps16
  go_wp2
  go_ret
  exact ⟨rfl, rfl⟩

/-- The bit 32 set, at every byte. -/
theorem low_all : ∀ n : Fin 256, (97 ≤ n.val ∧ n.val ≤ 102 → bits .or .u8 (n.val : Int) 32 = (n.val : Int)) ∧ (65 ≤ n.val ∧ n.val ≤ 70 → bits .or .u8 (n.val : Int) 32 = (n.val : Int) + 32)
    ∧ (¬ (97 ≤ n.val ∧ n.val ≤ 102) ∧ ¬ (65 ≤ n.val ∧ n.val ≤ 70) → bits .or .u8 (n.val : Int) 32 < 97 ∨ 102 < bits .or .u8 (n.val : Int) 32) := by
  decide +kernel

theorem low_of (n : Nat) (h : n < 256) : (97 ≤ n ∧ n ≤ 102 → bits .or .u8 (n : Int) 32 = (n : Int)) ∧ (65 ≤ n ∧ n ≤ 70 → bits .or .u8 (n : Int) 32 = (n : Int) + 32)
    ∧ (¬ (97 ≤ n ∧ n ≤ 102) ∧ ¬ (65 ≤ n ∧ n ≤ 70) → bits .or .u8 (n : Int) 32 < 97 ∨ 102 < bits .or .u8 (n : Int) 32) := low_all ⟨n, h⟩

set_option maxHeartbeats 32000000 in
set_option maxRecDepth 100000 in
theorem hex_inner (t : ByteArray) (hne : t.size ≠ 0) (hmax : t.size ≤ 9223372036854775806) (w : World) :
    Calls Ybad.prog 13 #[.string t, .int .i64 16, .int .i64 32] w fun e w' => HexEnd (num 16 0 t.data.toList) e ∧ w' = Lib.bytesWorld w 5 t := by
  have hemp : t.toList.isEmpty = false := by
    rw [← decide_eq_emptyBytes]
    exact decide_eq_false (fun h => hne (by rw [h]; rfl))
  have hcv := Lib.run_convert_string_bytes (P := Ybad.prog) w 9 35 5 t (u := .string) Ybad.underlying9 Ybad.underlying35 Ybad.underlying5
  have hB : ∀ j, j < t.size → (Lib.bytesWorld w 5 t).cell? ⟨w.heap.size, j, none⟩ = some (.int .u8 (t.data.toList.getD j 0).toNat) := fun j hj => Lib.bytesWorld_cell w 5 t j hj
  obtain ⟨W1, hW1⟩ : ∃ W1, W1 = Lib.bytesWorld w 5 t := ⟨_, rfl⟩
  rw [← hW1] at hcv hB ⊢
  clear hW1
  obtain ⟨bs, hL⟩ : ∃ bs, bs = t.data.toList := ⟨_, rfl⟩
  have hLn : bs.length = t.size := by rw [hL, Lib.size_eq]
  rw [← hL] at hB ⊢
  clear hL
  have hmv : IntKind.u64.wrap (IntKind.u64.wrap 4294967296 - 1) = 4294967295 := by
    rw [IntKind.wrap_u64, IntKind.wrap_u64]
    decide
  go_enter Ybad.func13, Ybad.ntmps13
  go_wp2
  go_loop [12, 13, 101] (fun vu vn vi => ∃ (k acc : Nat) (a : Int), vu = .bool false ∧ vn = .int .u64 a ∧ vi = .int .i64 k ∧ k ≤ t.size ∧ Hid (a = (acc : Int) ∧ acc ≤ 4294967295 ∧ num 16 0 bs = num 16 acc (bs.drop k)))
    (fun _ _ vi => t.size - (intOf vi).toNat)
  case atStart => exact ⟨0, 0, 0, rfl, rfl, rfl, by omega, rfl, by omega, rfl⟩
  case round =>
    obtain ⟨k, acc, a, rfl, rfl, rfl, hk, hh⟩ := hrel
    obtain ⟨ha, hacc, hdec⟩ := hh.out
    clear hh
    have a0 : 0 ≤ a := by omega
    have a1 : a ≤ 4294967295 := by omega
    by_cases hkn : k < t.size
    · have hc := hB k hkn
      have hdrop : bs.drop k = bs[k]'(by omega) :: bs.drop (k + 1) := List.drop_eq_getElem_cons (by omega)
      have hget : bs.getD k 0 = bs[k]'(by omega) := by simp [List.getD, List.getElem?_eq_getElem (show k < bs.length by omega)]
      rw [hdrop] at hdec
      rw [hget] at hc
      generalize bs[k]'(by omega) = c at hc hdec
      have hc256 : c.toNat < 256 := c.toNat_lt
      obtain ⟨lo1, lo2, lo3⟩ := low_of c.toNat hc256
      clear hB hdrop hget
      by_cases hdig : 48 ≤ c.toNat ∧ c.toNat ≤ 57
      · clear lo1 lo2 lo3
        obtain ⟨hd0, hd1⟩ := hdig
        have hd := dig_num (base := 16) hd0 hd1
        by_cases hov : 4294967295 < acc * 16 + (c.toNat - 48)
        · have HF := Lib.hid (hdec.trans (num_over hd hov))
          have iov : 4294967295 < a * 16 + ((c.toNat : Int) - 48) := by omega
          clear hacc hov ha hdec hd
          go_wp2
          go_ret2
          exact ⟨by rw [HF.out]; exact Or.inr rfl, rfl⟩
        · have HN : Hid (a * 16 + ((c.toNat : Int) - 48) = ((acc * 16 + (c.toNat - 48) : Nat) : Int) ∧ acc * 16 + (c.toNat - 48) ≤ 4294967295 ∧ num 16 0 bs = num 16 (acc * 16 + (c.toNat - 48)) (bs.drop (k + 1))) := Lib.hid ⟨by omega, by omega, hdec.trans (num_on hd hov)⟩
          have iov : a * 16 + ((c.toNat : Int) - 48) ≤ 4294967295 := by omega
          clear hacc hov ha hdec hd
          go_wp2
          exact ⟨⟨k + 1, _, _, rfl, rfl, by go_num, by omega, HN⟩, by simp [intOf]; omega⟩
      by_cases hlow : 97 ≤ c.toNat ∧ c.toNat ≤ 102
      · have hl := lo1 hlow
        have n95 : ((c.toNat : Int) == 95) = false := beq_eq_false_iff_ne.2 (by omega)
        have hd := dig_low hlow.1 hlow.2
        by_cases hov : 4294967295 < acc * 16 + (c.toNat - 97 + 10)
        · have HF := Lib.hid (hdec.trans (num_over hd hov))
          have iov : 4294967295 < a * 16 + ((c.toNat : Int) - 97 + 10) := by omega
          clear hacc hov ha hdec hd lo1 lo2 lo3
          go_wp2_with (go_at_call 16; refine (lower_any _ _).mono ?_; rintro e w' ⟨rfl, rfl⟩)
          go_ret2
          exact ⟨by rw [HF.out]; exact Or.inr rfl, rfl⟩
        · have iov : a * 16 + ((c.toNat : Int) - 97 + 10) ≤ 4294967295 := by omega
          have HN : Hid (a * 16 + ((c.toNat : Int) - 97 + 10) = ((acc * 16 + (c.toNat - 97 + 10) : Nat) : Int) ∧ acc * 16 + (c.toNat - 97 + 10) ≤ 4294967295 ∧ num 16 0 bs = num 16 (acc * 16 + (c.toNat - 97 + 10)) (bs.drop (k + 1))) := Lib.hid ⟨by omega, by omega, hdec.trans (num_on hd hov)⟩
          clear hacc hov ha hdec hd lo1 lo2 lo3
          go_wp2_with (go_at_call 16; refine (lower_any _ _).mono ?_; rintro e w' ⟨rfl, rfl⟩)
          exact ⟨⟨k + 1, _, _, rfl, rfl, by go_num, by omega, HN⟩, by simp [intOf]; omega⟩
      by_cases hup : 65 ≤ c.toNat ∧ c.toNat ≤ 70
      · have hl := lo2 hup
        have n95 : ((c.toNat : Int) == 95) = false := beq_eq_false_iff_ne.2 (by omega)
        have hd := dig_up hup.1 hup.2
        by_cases hov : 4294967295 < acc * 16 + (c.toNat - 65 + 10)
        · have HF := Lib.hid (hdec.trans (num_over hd hov))
          have iov : 4294967295 < a * 16 + ((c.toNat : Int) + 32 - 97 + 10) := by omega
          clear hacc hov ha hdec hd lo1 lo2 lo3
          go_wp2_with (go_at_call 16; refine (lower_any _ _).mono ?_; rintro e w' ⟨rfl, rfl⟩)
          go_ret2
          exact ⟨by rw [HF.out]; exact Or.inr rfl, rfl⟩
        · have iov : a * 16 + ((c.toNat : Int) + 32 - 97 + 10) ≤ 4294967295 := by omega
          have HN : Hid (a * 16 + ((c.toNat : Int) + 32 - 97 + 10) = ((acc * 16 + (c.toNat - 65 + 10) : Nat) : Int) ∧ acc * 16 + (c.toNat - 65 + 10) ≤ 4294967295 ∧ num 16 0 bs = num 16 (acc * 16 + (c.toNat - 65 + 10)) (bs.drop (k + 1))) := Lib.hid ⟨by omega, by omega, hdec.trans (num_on hd hov)⟩
          clear hacc hov ha hdec hd lo1 lo2 lo3
          go_wp2_with (go_at_call 16; refine (lower_any _ _).mono ?_; rintro e w' ⟨rfl, rfl⟩)
          exact ⟨⟨k + 1, _, _, rfl, rfl, by go_num, by omega, HN⟩, by simp [intOf]; omega⟩
      · have HF := Lib.hid (hdec.trans (num_bad (dig_none hdig (fun _ => ⟨hlow, hup⟩))))
        have hv0 := bits_lo_u8 .or (c.toNat : Int) 32
        have hv1 := bits_hi_u8 .or (c.toNat : Int) 32
        have hv2 := lo3 ⟨hlow, hup⟩
        clear hacc ha hdec lo1 lo2 lo3
        by_cases h95 : c.toNat = 95
        · have n95 : ((c.toNat : Int) == 95) = true := beq_iff_eq.2 (by omega)
          have hu : bits .or .u8 95 32 = 127 := by decide +kernel
          clear hv0 hv1 hv2 hdig hlow hup
          go_wp2_with (go_at_call 16; refine (lower_any _ _).mono ?_; rintro e w' ⟨rfl, rfl⟩)
          go_ret2
          exact ⟨by rw [HF.out]; exact Or.inl rfl, rfl⟩
        · have n95 : ((c.toNat : Int) == 95) = false := beq_eq_false_iff_ne.2 (by omega)
          rcases hv2 with hv2 | hv2
          · clear hlow hup
            go_wp2_with (go_at_call 16; refine (lower_any _ _).mono ?_; rintro e w' ⟨rfl, rfl⟩)
            all_goals go_ret2
            all_goals exact ⟨by rw [HF.out]; exact Or.inl rfl, rfl⟩
          · clear hlow hup
            go_wp2_with (go_at_call 16; refine (lower_any _ _).mono ?_; rintro e w' ⟨rfl, rfl⟩)
            all_goals go_ret2
            all_goals exact ⟨by rw [HF.out]; exact Or.inl rfl, rfl⟩
    · have hkk : k = t.size := by omega
      subst hkk
      have hF : num 16 0 bs = some acc := by rw [hdec, List.drop_eq_nil_of_le (by omega)]; rfl
      have HF := Lib.hid hF
      subst ha
      clear hacc hF a0 a1 hdec
      go_wp2
      go_ret2
      exact ⟨by rw [HF.out]; rfl, rfl⟩

end Go.Proofs.YbulkdokiDoor
