/-
  PLAIN LAWS ON DECIMAL TEXTS: no Go in sight. A text is n bytes, 'Z i' the i-th as an integer.
-/
import Derived.Lib.ItoaNum
namespace Go.Proofs.Qxb6601381a

/-- The digits from place st on, k of them, read from the left. -/
def dv (Z : Nat → Int) (st : Nat) : Nat → Int
  | 0 => 0
  | k + 1 => dv Z st k * 10 + (Z (st + k) - 48)

/-- k digits lie from place st on. -/
def Dig (Z : Nat → Int) (st k : Nat) : Prop := ∀ j, j < k → 48 ≤ Z (st + j) ∧ Z (st + j) ≤ 57

theorem Dig.zero (Z : Nat → Int) (st : Nat) : Dig Z st 0 := fun j h => by omega
theorem Dig.succ {Z : Nat → Int} {st k : Nat} (h : Dig Z st k) (h1 : 48 ≤ Z (st + k)) (h2 : Z (st + k) ≤ 57) : Dig Z st (k + 1) := fun j hj => by
  by_cases e : j = k
  · subst e; exact ⟨h1, h2⟩
  · exact h j (by omega)

theorem dv_bound {Z : Nat → Int} {st : Nat} : ∀ k, Dig Z st k → 0 ≤ dv Z st k ∧ dv Z st k < 10 ^ k
  | 0, _ => by simp [dv]
  | k + 1, h => by
    have ih := dv_bound k (fun j hj => h j (by omega))
    have hd := h k (by omega)
    simp only [dv, Int.pow_succ]
    omega

theorem pow_le18 {k : Nat} (h : k ≤ 18) : (10 : Int) ^ k ≤ 1000000000000000000 := by
  have h1 : (10 : Nat) ^ k ≤ 10 ^ 18 := Nat.pow_le_pow_right (by decide) h
  have h2 : ((10 ^ k : Nat) : Int) ≤ ((10 ^ 18 : Nat) : Int) := by omega
  simpa using h2

theorem pow_le17 {k : Nat} (h : k ≤ 17) : (10 : Int) ^ k ≤ 100000000000000000 := by
  have h1 : (10 : Nat) ^ k ≤ 10 ^ 17 := Nat.pow_le_pow_right (by decide) h
  have h2 : ((10 ^ k : Nat) : Int) ≤ ((10 ^ 17 : Nat) : Int) := by omega
  simpa using h2

/-- 2^(b-1) -/
def pw (b : Int) : Int := 2 ^ (b.toNat - 1)

theorem pw_bound {b : Int} (h : b < 64) : 1 ≤ pw b ∧ pw b ≤ 4611686018427387904 := by
  unfold pw
  have h1 : (2 : Nat) ^ (b.toNat - 1) ≤ 2 ^ 62 := Nat.pow_le_pow_right (by decide) (by omega)
  have h0 : 1 ≤ (2 : Nat) ^ (b.toNat - 1) := Nat.one_le_two_pow
  have e : ((2 : Int) ^ (b.toNat - 1)) = ((2 ^ (b.toNat - 1) : Nat) : Int) := by simp
  rw [e]
  omega

/-- Does the number of sign neg and magnitude m fit b bits? -/
def fitsB (neg : Bool) (m b : Int) : Bool := if b < 64 then (if neg then decide (m ≤ pw b) else decide (m < pw b)) else true

/-- The answer at digits of a known sign. -/
def ans (neg : Bool) (m b : Int) : Int × Bool := if fitsB neg m b then (if neg then (-m, true) else (m, true)) else (0, false)

/-! ### The numeral of a number -/

/-- Every byte is a digit. -/
def Digits (l : List UInt8) : Prop := ∀ d ∈ l, 48 ≤ d.toNat ∧ d.toNat ≤ 57

/-- The number that decimal digits stand for. -/
def dec : List UInt8 → Nat
  | [] => 0
  | d :: r => (d.toNat - 48) * 10 ^ r.length + dec r

theorem dec_append : ∀ a b : List UInt8, dec (a ++ b) = dec a * 10 ^ b.length + dec b
  | [], b => by simp [dec]
  | d :: a, b => by
    rw [List.cons_append, dec, dec, dec_append a b, List.length_append, Nat.pow_add, Nat.add_mul, Nat.mul_assoc, Nat.add_assoc]

theorem dec_snoc (a : List UInt8) (d : UInt8) : dec (a ++ [d]) = dec a * 10 + (d.toNat - 48) := by
  rw [dec_append]; simp [dec]

theorem digit_nat (n : Nat) (h : n < 10) : (UInt8.ofNat (48 + n)).toNat = 48 + n := by
  rw [UInt8.toNat_ofNat']; omega

theorem digits_of (u : Nat) : Digits (Lib.decDigits u) ∧ dec (Lib.decDigits u) = u ∧ (Lib.decDigits u) ≠ [] := by
  induction u using Nat.strongRecOn with
  | _ u ih =>
    rw [Lib.decDigits]
    by_cases h : u < 10
    · rw [dif_pos h]
      have hn := digit_nat u h
      refine ⟨fun d hd => ?_, ?_, by simp⟩
      · obtain rfl : d = UInt8.ofNat (48 + u) := by simpa using hd
        omega
      · simp only [dec, hn]; simp
    · rw [dif_neg h]
      obtain ⟨i1, i2, i3⟩ := ih (u / 10) (by omega)
      have hn := digit_nat (u % 10) (by omega)
      refine ⟨fun d hd => ?_, ?_, by simp⟩
      · rcases List.mem_append.1 hd with h1 | h1
        · exact i1 d h1
        · obtain rfl : d = UInt8.ofNat (48 + u % 10) := by simpa using h1
          omega
      · rw [dec_snoc, i2, hn]; omega

theorem digits_len (u : Nat) : ∀ n, 0 < n → (u < 10 ^ n ↔ (Lib.decDigits u).length ≤ n) := by
  induction u using Nat.strongRecOn with
  | _ u ih =>
    intro n hp
    obtain ⟨m, rfl⟩ : ∃ m, n = m + 1 := ⟨n - 1, by omega⟩
    rw [Lib.decDigits]
    by_cases h : u < 10
    · rw [dif_pos h]
      have : 1 ≤ 10 ^ m := Nat.one_le_pow _ _ (by decide)
      simp [Nat.pow_succ]
      omega
    · rw [dif_neg h]
      have i3 := (digits_of (u / 10)).2.2
      have hl : 0 < (Lib.decDigits (u / 10)).length := List.length_pos_iff.2 i3
      by_cases hm : m = 0
      · subst hm
        simp
        constructor
        · intro; omega
        · intro; exact absurd ‹_› i3
      · have := ih (u / 10) (by omega) m (by omega)
        rw [Nat.pow_succ]
        simp only [List.length_append, List.length_cons, List.length_nil]
        constructor
        · intro hu
          have := this.1 (by omega)
          omega
        · intro hu
          have := this.2 (by omega)
          omega

/-- The bytes of a list, as a text. -/
def ofList (l : List UInt8) : Nat → Int := fun j => ((l.getD j 0).toNat : Int)

theorem dv_list (l : List UInt8) (hl : Digits l) (Z : Nat → Int) (st : Nat) (hZ : ∀ j (h : j < l.length), Z (st + j) = ((l[j]).toNat : Int)) : ∀ k, k ≤ l.length → dv Z st k = (dec (l.take k) : Int)
  | 0, _ => by simp [dv, dec]
  | k + 1, h => by
    have ih := dv_list l hl Z st hZ k (by omega)
    have hd := hl l[k] (List.getElem_mem _)
    rw [List.take_succ_eq_append_getElem (by omega), dec_snoc, dv, ih, hZ k (by omega)]
    omega

theorem dig_list (l : List UInt8) (hl : Digits l) (Z : Nat → Int) (st : Nat) (hZ : ∀ j (h : j < l.length), Z (st + j) = ((l[j]).toNat : Int)) : Dig Z st l.length := fun j hj => by
  have hd := hl l[j] (List.getElem_mem _)
  rw [hZ j hj]
  omega

end Go.Proofs.Qxb6601381a
