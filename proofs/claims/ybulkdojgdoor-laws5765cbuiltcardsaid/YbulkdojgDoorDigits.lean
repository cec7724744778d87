/-
  Seat b5765aD: the plain law of the built text: a sign, up to three zeros, the digits of u: what 'parsePeriod' makes of it.
-/
import Derived.Test.YbulkdojgDoorPlain
namespace Go.Proofs.YbulkdojgDoor

/-- The digits of x, the last one first, as the law's first loop gathers them (f: fuel). -/
def revF : Nat → Nat → List UInt8
  | 0, _ => []
  | f + 1, x => UInt8.ofNat (48 + x % 10) :: (if x / 10 = 0 then [] else revF f (x / 10))

theorem digit_toNat (x : Nat) : (UInt8.ofNat (48 + x % 10)).toNat = 48 + x % 10 := by
  rw [UInt8.toNat_ofNat']
  omega

theorem loop_append : ∀ (l1 l2 : List UInt8) (acc : Nat), modelLoop acc (l1 ++ l2) = (modelLoop acc l1).bind fun a => modelLoop a l2
  | [], l2, acc => rfl
  | c :: r, l2, acc => by
    simp only [List.cons_append, modelLoop]
    split
    · split
      · rfl
      · exact loop_append r l2 _
    · rfl

theorem loop_zeros : ∀ (z : Nat), modelLoop 0 (List.replicate z 48) = some 0
  | 0 => rfl
  | z + 1 => by
    rw [List.replicate_succ, modelLoop]
    have e : (48 : UInt8).toNat = 48 := rfl
    rw [e, if_pos (by omega), if_neg (by omega)]
    exact loop_zeros z

theorem loop_digits : ∀ (f x : Nat), x < 10 ^ (f + 1) → modelLoop 0 (revF (f + 1) x).reverse = if x < 9223372036854775808 then some x else none
  | 0, x, hx => by
    have h10 : x < 10 := by simpa using hx
    have h0 : x / 10 = 0 := by omega
    simp only [revF, h0, if_true, List.reverse_cons, List.reverse_nil, List.nil_append, modelLoop, digit_toNat]
    rw [if_pos (by omega), if_neg (by omega), if_pos (by omega)]
    congr 1
    omega
  | f + 1, x, hx => by
    have e : revF (f + 1 + 1) x = UInt8.ofNat (48 + x % 10) :: (if x / 10 = 0 then [] else revF (f + 1) (x / 10)) := rfl
    rw [e, List.reverse_cons, loop_append]
    by_cases h0 : x / 10 = 0
    · rw [if_pos h0]
      simp only [List.reverse_nil, modelLoop, Option.bind_some, digit_toNat]
      rw [if_pos (by omega), if_neg (by omega), if_pos (by omega)]
      congr 1
      omega
    · rw [if_neg h0, loop_digits f (x / 10) (by rw [Nat.pow_succ] at hx; omega)]
      by_cases hb : x / 10 < 9223372036854775808
      · rw [if_pos hb]
        simp only [Option.bind_some, modelLoop, digit_toNat]
        rw [if_pos (by omega)]
        by_cases hc : x < 9223372036854775808
        · rw [if_neg (by omega), if_pos hc]
          congr 1
          omega
        · rw [if_pos (by omega), if_neg hc]
      · rw [if_neg hb, if_neg (by omega)]
        rfl

/-- The bytes behind the sign. -/
def mag (z u : Nat) : List UInt8 := List.replicate z 48 ++ (revF 20 u).reverse

theorem mag_loop (z u : Nat) (hu : u < 18446744073709551616) : modelLoop 0 (mag z u) = if u < 9223372036854775808 then some u else none := by
  rw [mag, loop_append, loop_zeros]
  exact loop_digits 19 u (by omega)

theorem revF_len : ∀ (f x : Nat), (revF f x).length ≤ f
  | 0, _ => Nat.le_refl _
  | f + 1, x => by
    simp only [revF]
    split
    · simp
    · have := revF_len f (x / 10)
      simp
      exact this

theorem mag_ne (z u : Nat) : mag z u ≠ [] := by
  intro h
  have := congrArg List.length h
  simp [mag, revF] at this

/-- Each byte is a digit. -/
theorem revF_digit : ∀ (f x : Nat) (c : UInt8), c ∈ revF f x → 48 ≤ c.toNat ∧ c.toNat ≤ 57
  | 0, _, c, h => by simp [revF] at h
  | f + 1, x, c, h => by
    simp only [revF, List.mem_cons] at h
    rcases h with rfl | h
    · rw [digit_toNat]
      omega
    · split at h
      · simp at h
      · exact revF_digit f _ c h

theorem mag_digit (z u : Nat) (c : UInt8) (h : c ∈ mag z u) : 48 ≤ c.toNat ∧ c.toNat ≤ 57 := by
  simp only [mag, List.mem_append, List.mem_replicate, List.mem_reverse] at h
  rcases h with ⟨_, rfl⟩ | h
  · decide
  · exact revF_digit 20 u c h

/-- The sign's bytes. -/
def sgn (k : Nat) : List UInt8 := if k = 1 then [43] else if k = 2 then [45] else []

theorem magMag (z u : Nat) (mx : Int) (hu : u < 18446744073709551616) : modelMag (mag z u) mx = if u < 9223372036854775808 ∧ 1 ≤ (u : Int) ∧ (u : Int) ≤ mx then some (u : Int) else none := by
  rw [modelMag, mag_loop z u hu]
  by_cases h : u < 9223372036854775808
  · rw [if_pos h]
    simp only
    by_cases h1 : (u : Int) < 1 ∨ mx < (u : Int)
    · rw [if_pos h1, if_neg (by omega)]
    · rw [if_neg h1, if_pos (by omega)]
  · rw [if_neg h, if_neg (by omega)]

/-- THE PLAIN LAW of the built text. -/
theorem built_period (k z u : Nat) (mx : Int) (hk : k < 3) (hu : u < 18446744073709551616) :
    period (sgn k ++ mag z u) mx = if k ≠ 2 ∧ u < 9223372036854775808 ∧ 1 ≤ (u : Int) ∧ (u : Int) ≤ mx then some (u : Int) else none := by
  have hne := mag_ne z u
  have hcase : k = 0 ∨ k = 1 ∨ k = 2 := by omega
  rcases hcase with rfl | rfl | rfl
  · have e : sgn 0 ++ mag z u = mag z u := rfl
    rw [e]
    cases hm : mag z u with
    | nil => exact absurd hm hne
    | cons c r =>
      have hd := mag_digit z u c (by rw [hm]; simp)
      rw [period_plain c r mx (by omega) (c :: r) (by rw [if_neg (by omega)]) (by simp), ← hm, magMag z u mx hu]
      simp
  · have e : sgn 1 ++ mag z u = 43 :: mag z u := rfl
    rw [e, period_plain 43 (mag z u) mx (by decide) (mag z u) (by simp) hne, magMag z u mx hu]
    simp
  · have e : sgn 2 ++ mag z u = 45 :: mag z u := rfl
    rw [e, period_minus 45 (mag z u) mx (by decide)]
    simp
end Go.Proofs.YbulkdojgDoor
