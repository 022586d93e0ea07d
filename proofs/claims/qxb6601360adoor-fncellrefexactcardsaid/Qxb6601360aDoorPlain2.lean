/-
  PLAIN LAWS FOR FnCellRefExact: letters and decimal digits read from the left.
-/
import Derived.Test.Qxb6601360aDoorPlain
import Derived.Lib.ItoaNum
namespace Go.Proofs.Qxb6601360aDoor

theorem val_append : ∀ a b : List UInt8, val (a ++ b) = val a * 26 ^ b.length + val b
  | [], b => by simp [val]
  | d :: a, b => by
    rw [List.cons_append, val, val, val_append a b, List.length_append, Nat.pow_add, Nat.add_mul, Nat.mul_assoc, Nat.add_assoc]

theorem val_snoc (a : List UInt8) (d : UInt8) : val (a ++ [d]) = val a * 26 + (d.toNat - 64) := by
  rw [val_append]; simp [val]

theorem val_take_le (l : List UInt8) (k : Nat) : val (l.take k) ≤ val l := by
  have h := val_append (l.take k) (l.drop k)
  rw [List.take_append_drop] at h
  have h1 : val (l.take k) * 1 ≤ val (l.take k) * 26 ^ (l.drop k).length := Nat.mul_le_mul_left _ (Nat.one_le_pow _ _ (by decide))
  omega

/-- The number that decimal digits stand for. -/
def dec : List UInt8 → Nat
  | [] => 0
  | d :: r => (d.toNat - 48) * 10 ^ r.length + dec r

theorem dec_append : ∀ a b : List UInt8, dec (a ++ b) = dec a * 10 ^ b.length + dec b
  | [], b => by simp [dec]
  | d :: a, b => by
    rw [List.cons_append, dec, dec, dec_append a b, List.length_append, Nat.pow_add, Nat.add_mul, Nat.mul_assoc, Nat.add_assoc]

theorem dec_snoc (a : List UInt8) (d : UInt8) : dec (a ++ [d]) = dec a * 10 + (d.toNat - 48) := by
  rw [dec_append]; simp [dec]

theorem dec_take_le (l : List UInt8) (k : Nat) : dec (l.take k) ≤ dec l := by
  have h := dec_append (l.take k) (l.drop k)
  rw [List.take_append_drop] at h
  have h1 : dec (l.take k) * 1 ≤ dec (l.take k) * 10 ^ (l.drop k).length := Nat.mul_le_mul_left _ (Nat.one_le_pow _ _ (by decide))
  omega

/-- Every byte is a digit. -/
def Digits (l : List UInt8) : Prop := ∀ d ∈ l, 48 ≤ d.toNat ∧ d.toNat ≤ 57

theorem digit_nat (n : Nat) (h : n < 10) : (UInt8.ofNat (48 + n)).toNat = 48 + n := by
  rw [UInt8.toNat_ofNat']; omega

theorem digits_of (u : Nat) : Digits (Lib.decDigits u) ∧ dec (Lib.decDigits u) = u ∧ (Lib.decDigits u) ≠ [] ∧ (10 ≤ u → ∀ d ∈ (Lib.decDigits u).head?, d.toNat ≠ 48) ∧ (0 < u → ∀ d ∈ (Lib.decDigits u).head?, d.toNat ≠ 48) ∧ (u < 10 → (Lib.decDigits u).length = 1) := by
  induction u using Nat.strongRecOn with
  | _ u ih =>
    rw [Lib.decDigits]
    by_cases h : u < 10
    · rw [dif_pos h]
      have hn := digit_nat u h
      refine ⟨fun d hd => ?_, ?_, by simp, fun h2 => by omega, fun h2 d hd => ?_, fun _ => rfl⟩
      · obtain rfl : d = UInt8.ofNat (48 + u) := by simpa using hd
        omega
      · simp only [dec, hn]; simp
      · obtain rfl : d = UInt8.ofNat (48 + u) := by simpa using hd.symm
        omega
    · rw [dif_neg h]
      obtain ⟨i1, i2, i3, i4, i5, i6⟩ := ih (u / 10) (by omega)
      have hn := digit_nat (u % 10) (by omega)
      have hhead : ∀ d ∈ (Lib.decDigits (u / 10) ++ [UInt8.ofNat (48 + u % 10)]).head?, d.toNat ≠ 48 := fun d hd => by
        refine i5 (by omega) d ?_
        cases hc : Lib.decDigits (u / 10) with
        | nil => exact absurd hc i3
        | cons x r => rw [hc] at hd; simpa using hd
      refine ⟨fun d hd => ?_, ?_, by simp, fun _ => hhead, fun _ => hhead, fun h2 => absurd h2 h⟩
      · rcases List.mem_append.1 hd with h1 | h1
        · exact i1 d h1
        · obtain rfl : d = UInt8.ofNat (48 + u % 10) := by simpa using h1
          omega
      · rw [dec_snoc, i2, hn]; omega

theorem digits_len (u : Nat) : ∀ n, u < 10 ^ n → 0 < n → (Lib.decDigits u).length ≤ n := by
  induction u using Nat.strongRecOn with
  | _ u ih =>
    intro n hn hp
    rw [Lib.decDigits]
    by_cases h : u < 10
    · rw [dif_pos h]; simp; omega
    · rw [dif_neg h]
      obtain ⟨m, rfl⟩ : ∃ m, n = m + 1 := ⟨n - 1, by omega⟩
      have hm : 0 < m := by
        apply Nat.pos_of_ne_zero
        rintro rfl
        simp at hn; omega
      have hu : u / 10 < 10 ^ m := by
        rw [Nat.pow_succ] at hn; omega
      have := ih (u / 10) (by omega) m hu hm
      simp; omega

end Go.Proofs.Qxb6601360aDoor
