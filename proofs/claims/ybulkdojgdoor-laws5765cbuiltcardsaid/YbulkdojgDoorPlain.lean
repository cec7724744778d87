/-
  Seat b5765aD: the plain functions and laws (no Go in sight): what 'parsePeriod' answers, what the law's own parser answers, and that the two agree.
-/
import Derived.Lib.AtoiAll
import Derived.Lib.AtoiAllCases
namespace Go.Proofs.YbulkdojgDoor

/-- What 'parsePeriod' takes for a number: an int that Atoi reads, from 1 to mx. -/
def period (l : List UInt8) (mx : Int) : Option Int :=
  match Lib.atoiAll l with
  | .ok v => if v < 1 ∨ mx < v then none else some v
  | _ => none

/-- The law's own loop over the digits: 'acc' is what the digits before spell. -/
def modelLoop (acc : Nat) : List UInt8 → Option Nat
  | [] => some acc
  | c :: r =>
    if 48 ≤ c.toNat ∧ c.toNat ≤ 57 then
      if 922337203685477580 < acc ∨ (acc = 922337203685477580 ∧ 7 < c.toNat - 48) then none
      else modelLoop (acc * 10 + (c.toNat - 48)) r
    else none

/-- The law's own parser behind the sign. -/
def modelMag (s : List UInt8) (mx : Int) : Option Int :=
  match modelLoop 0 s with
  | some v => if (v : Int) < 1 ∨ mx < (v : Int) then none else some (v : Int)
  | none => none

/-- The law's own parser. -/
def model (l : List UInt8) (mx : Int) : Option Int :=
  match l with
  | [] => none
  | c :: r =>
    if c.toNat = 45 then none
    else if c.toNat = 43 then (if r = [] then none else modelMag r mx)
    else modelMag l mx

theorem parse_ge : ∀ (l : List UInt8) (acc v : Nat), Lib.parseUint10 acc l = .ok v → acc ≤ v
  | [], acc, v, h => by
    simp only [Lib.parseUint10] at h
    injection h with h
    omega
  | c :: r, acc, v, h => by
    simp only [Lib.parseUint10] at h
    split at h
    · split at h
      · cases h
      · split at h
        · cases h
        · have := parse_ge r _ v h
          omega
    · cases h

/-- What a uint64 parse gives, kept where an int holds it. -/
def fits (e : Lib.NumEnd Nat) : Option Nat :=
  match e with
  | .ok v => if v < 9223372036854775808 then some v else none
  | _ => none

theorem fits_none_of_ge {l : List UInt8} {acc : Nat} (h : 9223372036854775808 ≤ acc) : fits (Lib.parseUint10 acc l) = none := by
  rcases e : Lib.parseUint10 acc l with v | _ | _
  · have := parse_ge l acc v e
    simp only [fits]
    rw [if_neg (by omega)]
  · rfl
  · rfl

theorem loop_fits : ∀ (l : List UInt8) (acc : Nat), acc < 9223372036854775808 → modelLoop acc l = fits (Lib.parseUint10 acc l)
  | [], acc, h => by simp [modelLoop, Lib.parseUint10, fits, h]
  | c :: r, acc, h => by
    unfold modelLoop Lib.parseUint10
    by_cases hd : 48 ≤ c.toNat ∧ c.toNat ≤ 57
    · rw [if_pos hd, if_pos hd]
      by_cases hc : 922337203685477580 < acc ∨ (acc = 922337203685477580 ∧ 7 < c.toNat - 48)
      · rw [if_pos hc]
        split
        · rfl
        · split
          · rfl
          · exact (fits_none_of_ge (by omega)).symm
      · rw [if_neg hc, if_neg (by omega), if_neg (by omega)]
        exact loop_fits r _ (by omega)
    · rw [if_neg hd, if_neg hd]
      rfl

theorem modelMag_of (s : List UInt8) (mx : Int) : modelMag s mx = match fits (Lib.parseUint10 0 s) with
    | some v => if (v : Int) < 1 ∨ mx < (v : Int) then none else some (v : Int)
    | none => none := by
  rw [modelMag, loop_fits s 0 (by omega)]

/-- A text without a minus sign: what stands behind the plus sign decides. -/
theorem period_plain (c : UInt8) (r : List UInt8) (mx : Int) (hc : c.toNat ≠ 45) (t : List UInt8) (ht : t = if c.toNat = 43 then r else c :: r) (hne : t ≠ []) :
    period (c :: r) mx = modelMag t mx := by
  rw [modelMag_of]
  have e1 : (if c.toNat = 43 ∨ c.toNat = 45 then r else c :: r) = t := by
    rw [ht]
    by_cases h : c.toNat = 43 <;> simp [h, hc]
  have e2 : Lib.parseMag t = Lib.parseUint10 0 t := by simp [Lib.parseMag, hne]
  simp only [period, Lib.atoiAll, e1, e2]
  rcases e : Lib.parseUint10 0 t with v | _ | _
  · simp only [fits, hc]
    by_cases hv : v < 9223372036854775808
    · have hv2 : ¬ 9223372036854775808 ≤ v := by omega
      simp [hv, hv2]
    · have hv2 : 9223372036854775808 ≤ v := by omega
      simp [hv, hv2]
  · simp [fits]
  · simp [fits]

theorem period_minus (c : UInt8) (r : List UInt8) (mx : Int) (hc : c.toNat = 45) : period (c :: r) mx = none := by
  have e1 : (if c.toNat = 43 ∨ c.toNat = 45 then r else c :: r) = r := by simp [hc]
  simp only [period, Lib.atoiAll, e1]
  rcases e : Lib.parseMag r with v | _ | _
  · by_cases hv : 9223372036854775808 < v
    · simp [hc, hv]
    · simp only [hc, hv]
      simp
      omega
  · rfl
  · rfl

theorem period_nil (mx : Int) : period [] mx = none := by simp [period, Lib.atoiAll]

/-- THE PLAIN LAW: the two agree, whatever the bytes. -/
theorem model_eq (l : List UInt8) (mx : Int) : model l mx = period l mx := by
  match l with
  | [] => rw [period_nil]; rfl
  | c :: r =>
    by_cases h45 : c.toNat = 45
    · rw [period_minus c r mx h45]
      simp [model, h45]
    · by_cases h43 : c.toNat = 43
      · by_cases hr : r = []
        · subst hr
          simp [model, h43, period, Lib.atoiAll, Lib.parseMag]
        · rw [period_plain c r mx h45 r (by simp [h43]) hr]
          simp [model, h43, hr]
      · rw [period_plain c r mx h45 (c :: r) (by simp [h43]) (by simp)]
        simp [model, h43, h45]

end Go.Proofs.YbulkdojgDoor
