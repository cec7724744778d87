/-
  Seat b5767aD: the plain functions and laws (no Go in sight): the number that a text spells, at base 10 or, behind 0x, at base 16, within 32 bits.
-/
import Derived.Lib.ParseIntB
namespace Go.Proofs.YbulkdokiDoor

/-- The digit that a byte is. -/
def dig (base : Nat) (c : UInt8) : Option Nat :=
  if 48 ≤ c.toNat ∧ c.toNat ≤ 57 then some (c.toNat - 48)
  else if base = 16 ∧ 97 ≤ c.toNat ∧ c.toNat ≤ 102 then some (c.toNat - 97 + 10)
  else if base = 16 ∧ 65 ≤ c.toNat ∧ c.toNat ≤ 70 then some (c.toNat - 65 + 10)
  else none

/-- The number that the digits spell, if it fits 32 bits; 'acc' is what the digits before spell. -/
def num (base acc : Nat) : List UInt8 → Option Nat
  | [] => some acc
  | c :: r =>
    match dig base c with
    | none => none
    | some d => if 4294967295 < acc * base + d then none else num base (acc * base + d) r

/-- Of one digit at least. -/
def num1 (base : Nat) (l : List UInt8) : Option Nat := if l = [] then none else num base 0 l

/-- The number that a text spells: base 16 behind 0x, else base 10. -/
def numOf (l : List UInt8) : Option Nat :=
  match l with
  | c :: d :: r => if c.toNat = 48 ∧ d.toNat = 120 then num1 16 r else num1 10 l
  | _ => num1 10 l

theorem num_bad {base acc : Nat} {c : UInt8} {r : List UInt8} (h : dig base c = none) : num base acc (c :: r) = none := by simp [num, h]
theorem num_over {base acc d : Nat} {c : UInt8} {r : List UInt8} (h : dig base c = some d) (ho : 4294967295 < acc * base + d) : num base acc (c :: r) = none := by simp [num, h, ho]
theorem num_on {base acc d : Nat} {c : UInt8} {r : List UInt8} (h : dig base c = some d) (ho : ¬ 4294967295 < acc * base + d) : num base acc (c :: r) = num base (acc * base + d) r := by simp [num, h, ho]

theorem dig_num {base : Nat} {c : UInt8} (h0 : 48 ≤ c.toNat) (h1 : c.toNat ≤ 57) : dig base c = some (c.toNat - 48) := by simp [dig, h0, h1]
theorem dig_low {c : UInt8} (h0 : 97 ≤ c.toNat) (h1 : c.toNat ≤ 102) : dig 16 c = some (c.toNat - 97 + 10) := by
  have : ¬ (48 ≤ c.toNat ∧ c.toNat ≤ 57) := by omega
  simp [dig, this, h0, h1]
theorem dig_up {c : UInt8} (h0 : 65 ≤ c.toNat) (h1 : c.toNat ≤ 70) : dig 16 c = some (c.toNat - 65 + 10) := by
  have e1 : ¬ (48 ≤ c.toNat ∧ c.toNat ≤ 57) := by omega
  have e2 : ¬ (97 ≤ c.toNat ∧ c.toNat ≤ 102) := by omega
  simp [dig, e1, e2, h0, h1]
theorem dig_none {base : Nat} {c : UInt8} (h : ¬ (48 ≤ c.toNat ∧ c.toNat ≤ 57)) (h2 : base = 16 → ¬ (97 ≤ c.toNat ∧ c.toNat ≤ 102) ∧ ¬ (65 ≤ c.toNat ∧ c.toNat ≤ 70)) : dig base c = none := by
  by_cases hb : base = 16
  · obtain ⟨e1, e2⟩ := h2 hb
    simp [dig, h, e1, e2]
  · simp [dig, h, hb]

theorem num_le : ∀ (l : List UInt8) (base acc v : Nat), acc ≤ 4294967295 → num base acc l = some v → v ≤ 4294967295
  | [], base, acc, v, ha, h => by simp [num] at h; omega
  | c :: r, base, acc, v, ha, h => by
    cases hd : dig base c with
    | none => rw [num_bad hd] at h; cases h
    | some d =>
      by_cases ho : 4294967295 < acc * base + d
      · rw [num_over hd ho] at h; cases h
      · rw [num_on hd ho] at h
        exact num_le r base _ v (by omega) h

theorem num1_le {base v : Nat} {l : List UInt8} (h : num1 base l = some v) : v ≤ 4294967295 := by
  unfold num1 at h
  split at h
  · cases h
  · exact num_le l base 0 v (by omega) h

/-- What the shelf's function ends in, as an option. -/
def got (e : Lib.NumEnd Nat) : Option Nat :=
  match e with
  | .ok v => some v
  | _ => none

theorem tie10 : ∀ (l : List UInt8) (acc : Nat), acc ≤ 4294967295 → got (Lib.parseUintM 4294967295 acc l) = num 10 acc l
  | [], acc, h => rfl
  | c :: r, acc, h => by
    by_cases hd : 48 ≤ c.toNat ∧ c.toNat ≤ 57
    · have e := dig_num (base := 10) hd.1 hd.2
      by_cases ho : 4294967295 < acc * 10 + (c.toNat - 48)
      · rw [num_over e ho, Lib.parseUintM, if_pos hd, if_neg (by omega), if_pos ho]
        rfl
      · rw [num_on e ho, Lib.parseUintM, if_pos hd, if_neg (by omega), if_neg ho]
        exact tie10 r _ (by omega)
    · rw [num_bad (dig_none hd (fun h => by omega)), Lib.parseUintM, if_neg hd]
      rfl

theorem tie10B (l : List UInt8) : got (Lib.parseUintB 32 l) = num1 10 l := by
  unfold Lib.parseUintB num1
  by_cases h : l = []
  · rw [if_pos h, if_pos h]
    rfl
  · rw [if_neg h, if_neg h]
    exact tie10 l 0 (by omega)

end Go.Proofs.YbulkdokiDoor
