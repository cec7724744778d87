/-
  Seat b5767aD: the plain law of the written text: the number n in decimal, or in hex behind 0x with digits of either case, with leading zeros: it reads as n.
-/
import Derived.Test.YbulkdokiDoorPlain
namespace Go.Proofs.YbulkdokiDoor

/-- The byte of a digit. -/
def chr (up : Bool) (d : Nat) : Nat := if d < 10 then 48 + d else if up then 65 + d - 10 else 97 + d - 10

/-- The digits of x at base B, the last one first, as the law's own writer gathers them (f: fuel). -/
def revB (B : Nat) (up : Bool) : Nat → Nat → List UInt8
  | 0, _ => []
  | f + 1, x => UInt8.ofNat (chr up (x % B)) :: (if x / B = 0 then [] else revB B up f (x / B))

theorem chr_lt (up : Bool) (d : Nat) (h : d < 16) : chr up d < 256 := by
  unfold chr
  split
  · omega
  · split <;> omega

theorem chr_toNat (up : Bool) (d : Nat) (h : d < 16) : (UInt8.ofNat (chr up d)).toNat = chr up d := by
  rw [UInt8.toNat_ofNat']
  exact Nat.mod_eq_of_lt (chr_lt up d h)

theorem dig_chr16 (up : Bool) (d : Nat) (h : d < 16) : dig 16 (UInt8.ofNat (chr up d)) = some d := by
  have e := chr_toNat up d h
  by_cases h10 : d < 10
  · have ec : chr up d = 48 + d := by simp [chr, h10]
    rw [ec] at e
    rw [ec, dig_num (by omega) (by omega), e]
    congr 1
    omega
  · cases up
    · have ec : chr false d = 97 + d - 10 := by simp [chr, h10]
      rw [ec] at e
      rw [ec, dig_low (by omega) (by omega), e]
      congr 1
      omega
    · have ec : chr true d = 65 + d - 10 := by simp [chr, h10]
      rw [ec] at e
      rw [ec, dig_up (by omega) (by omega), e]
      congr 1
      omega

theorem dig_chr10 (up : Bool) (d : Nat) (h : d < 10) : dig 10 (UInt8.ofNat (chr up d)) = some d := by
  have e := chr_toNat up d (by omega)
  have ec : chr up d = 48 + d := by simp [chr, h]
  rw [ec] at e
  rw [ec, dig_num (by omega) (by omega), e]
  congr 1
  omega

theorem num_append : ∀ (l1 l2 : List UInt8) (B acc : Nat), num B acc (l1 ++ l2) = (num B acc l1).bind fun a => num B a l2
  | [], l2, B, acc => rfl
  | c :: r, l2, B, acc => by
    rw [List.cons_append]
    cases hd : dig B c with
    | none => rw [num_bad hd, num_bad hd]; rfl
    | some d =>
      by_cases ho : 4294967295 < acc * B + d
      · rw [num_over hd ho, num_over hd ho]; rfl
      · rw [num_on hd ho, num_on hd ho]
        exact num_append r l2 B _

theorem num_zeros : ∀ (z B : Nat), num B 0 (List.replicate z 48) = some 0
  | 0, B => rfl
  | z + 1, B => by
    rw [List.replicate_succ, num_on (dig_num (by decide) (by decide)) (by simp)]
    simp only [Nat.zero_mul]
    exact num_zeros z B

theorem num_digits10 (up : Bool) : ∀ (f x : Nat), x < 10 ^ (f + 1) → x ≤ 4294967295 → num 10 0 (revB 10 up (f + 1) x).reverse = some x
  | 0, x, hx, hm => by
    have h1 : x < 10 := by simpa using hx
    have h0 : x / 10 = 0 := by omega
    have e : x % 10 = x := by omega
    simp only [revB, h0, if_true, List.reverse_cons, List.reverse_nil, List.nil_append, e]
    rw [num_on (dig_chr10 up x (by omega)) (by omega)]
    simp [num]
  | f + 1, x, hx, hm => by
    have e : revB 10 up (f + 1 + 1) x = UInt8.ofNat (chr up (x % 10)) :: (if x / 10 = 0 then [] else revB 10 up (f + 1) (x / 10)) := rfl
    have hd := dig_chr10 up (x % 10) (by omega)
    rw [e, List.reverse_cons, num_append]
    by_cases h0 : x / 10 = 0
    · rw [if_pos h0]
      simp only [List.reverse_nil, num, Option.bind_some, hd]
      rw [if_neg (by omega)]
      congr 1
      omega
    · rw [if_neg h0, num_digits10 up f (x / 10) (by rw [Nat.pow_succ] at hx; omega) (by omega)]
      simp only [Option.bind_some]
      rw [num_on hd (by omega)]
      simp only [num]
      congr 1
      omega

theorem num_digits16 (up : Bool) : ∀ (f x : Nat), x < 16 ^ (f + 1) → x ≤ 4294967295 → num 16 0 (revB 16 up (f + 1) x).reverse = some x
  | 0, x, hx, hm => by
    have h1 : x < 16 := by simpa using hx
    have h0 : x / 16 = 0 := by omega
    have e : x % 16 = x := by omega
    simp only [revB, h0, if_true, List.reverse_cons, List.reverse_nil, List.nil_append, e]
    rw [num_on (dig_chr16 up x (by omega)) (by omega)]
    simp [num]
  | f + 1, x, hx, hm => by
    have e : revB 16 up (f + 1 + 1) x = UInt8.ofNat (chr up (x % 16)) :: (if x / 16 = 0 then [] else revB 16 up (f + 1) (x / 16)) := rfl
    have hd := dig_chr16 up (x % 16) (by omega)
    rw [e, List.reverse_cons, num_append]
    by_cases h0 : x / 16 = 0
    · rw [if_pos h0]
      simp only [List.reverse_nil, num, Option.bind_some, hd]
      rw [if_neg (by omega)]
      congr 1
      omega
    · rw [if_neg h0, num_digits16 up f (x / 16) (by rw [Nat.pow_succ] at hx; omega) (by omega)]
      simp only [Option.bind_some]
      rw [num_on hd (by omega)]
      simp only [num]
      congr 1
      omega

/-- The digits with their zeros. -/
def mag (B : Nat) (up : Bool) (z n : Nat) : List UInt8 := List.replicate z 48 ++ (revB B up 10 n).reverse

theorem revB_len (B : Nat) (up : Bool) : ∀ (f x : Nat), (revB B up f x).length ≤ f
  | 0, _ => Nat.le_refl _
  | f + 1, x => by
    simp only [revB]
    split
    · simp
    · have := revB_len B up f (x / B)
      simp
      exact this

theorem mag_ne (B : Nat) (up : Bool) (z n : Nat) : mag B up z n ≠ [] := by
  intro h
  have := congrArg List.length h
  simp [mag, revB] at this

theorem mag16 (up : Bool) (z n : Nat) (hn : n ≤ 4294967295) : num1 16 (mag 16 up z n) = some n := by
  rw [num1, if_neg (mag_ne 16 up z n), mag, num_append, num_zeros]
  exact num_digits16 up 9 n (by omega) hn

theorem mag10 (up : Bool) (z n : Nat) (hn : n ≤ 4294967295) : num1 10 (mag 10 up z n) = some n := by
  rw [num1, if_neg (mag_ne 10 up z n), mag, num_append, num_zeros]
  exact num_digits10 up 9 n (by omega) hn

theorem revB_digit (up : Bool) : ∀ (f x : Nat) (c : UInt8), c ∈ revB 10 up f x → c.toNat ≤ 57
  | 0, _, c, h => by simp [revB] at h
  | f + 1, x, c, h => by
    simp only [revB, List.mem_cons] at h
    rcases h with rfl | h
    · rw [chr_toNat up _ (by omega), chr, if_pos (by omega)]
      omega
    · split at h
      · simp at h
      · exact revB_digit up f _ c h

theorem mag_digit (up : Bool) (z n : Nat) (c : UInt8) (h : c ∈ mag 10 up z n) : c.toNat ≤ 57 := by
  simp only [mag, List.mem_append, List.mem_replicate, List.mem_reverse] at h
  rcases h with ⟨_, rfl⟩ | h
  · decide
  · exact revB_digit up 10 n c h

/-- The written text. -/
def pfx (hex : Bool) : List UInt8 := if hex then [48, 120] else []
def bas (hex : Bool) : Nat := if hex then 16 else 10
def text (hex up : Bool) (z n : Nat) : List UInt8 := pfx hex ++ mag (bas hex) up z n

/-- THE PLAIN LAW: the written text reads as the number. -/
theorem text_num (hex up : Bool) (z n : Nat) (hn : n ≤ 4294967295) : numOf (text hex up z n) = some n := by
  cases hex
  · show numOf (mag 10 up z n) = some n
    rw [← mag10 up z n hn]
    match hm : mag 10 up z n with
    | [] => rfl
    | [c] => rfl
    | c :: d :: r =>
      have hd := mag_digit up z n d (by rw [hm]; simp)
      have : ¬ (c.toNat = 48 ∧ d.toNat = 120) := by omega
      simp [numOf, this]
  · show numOf (48 :: 120 :: mag 16 up z n) = some n
    rw [← mag16 up z n hn]
    simp [numOf]

theorem text_len (hex up : Bool) (z n : Nat) (hz : z ≤ 3) : (text hex up z n).length ≤ 15 := by
  have h1 := revB_len (bas hex) up 10 n
  have h2 : (pfx hex).length ≤ 2 := by cases hex <;> simp [pfx]
  simp only [text, mag, List.length_append, List.length_replicate, List.length_reverse]
  omega
end Go.Proofs.YbulkdokiDoor
