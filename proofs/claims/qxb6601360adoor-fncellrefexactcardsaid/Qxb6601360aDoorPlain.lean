/-
  PLAIN LAWS ON COLUMN LETTERS: no Go in sight. A column's letters are a list of bytes; 'val' reads it in bijective base 26 ('@', 64, counts as nought).
-/
namespace Go.Proofs.Qxb6601360aDoor

/-- The number that letters stand for: A = 1, Z = 26. -/
def val : List UInt8 → Nat
  | [] => 0
  | d :: r => (d.toNat - 64) * 26 ^ r.length + val r

/-- Every byte is a letter A .. Z. -/
def Letters (l : List UInt8) : Prop := ∀ d ∈ l, 65 ≤ d.toNat ∧ d.toNat ≤ 90

theorem Letters.nil : Letters [] := fun d h => by cases h
theorem Letters.cons {d : UInt8} {l : List UInt8} (hd : 65 ≤ d.toNat ∧ d.toNat ≤ 90) (h : Letters l) : Letters (d :: l) := fun x hx => by
  rcases List.mem_cons.1 hx with e | e
  · rw [e]; exact hd
  · exact h x e
theorem Letters.head {d : UInt8} {l : List UInt8} (h : Letters (d :: l)) : 65 ≤ d.toNat ∧ d.toNat ≤ 90 := h d (List.mem_cons_self ..)
theorem Letters.tail {d : UInt8} {l : List UInt8} (h : Letters (d :: l)) : Letters l := fun x hx => h x (List.mem_cons_of_mem _ hx)

/-- 1 + 26 + 26^2 + .. (n terms) -/
def ones : Nat → Nat
  | 0 => 0
  | n + 1 => 26 ^ n + ones n

theorem ones_eq (n : Nat) : 25 * ones n + 1 = 26 ^ n := by
  induction n with
  | zero => rfl
  | succ n ih => simp only [ones, Nat.pow_succ]; omega

theorem ones_mono {m n : Nat} (h : m ≤ n) : ones m ≤ ones n := by
  induction n with
  | zero => have : m = 0 := by omega
            subst this; exact Nat.le_refl _
  | succ n ih =>
    by_cases e : m = n + 1
    · subst e; exact Nat.le_refl _
    · exact Nat.le_trans (ih (by omega)) (Nat.le_add_left _ _)

theorem val_bounds : ∀ l : List UInt8, Letters l → ones l.length ≤ val l ∧ val l ≤ 26 * ones l.length
  | [], _ => ⟨Nat.le_refl _, Nat.le_refl _⟩
  | d :: r, h => by
    have ih := val_bounds r h.tail
    have hd := h.head
    simp only [val, ones, List.length_cons]
    have h1 : 1 * 26 ^ r.length ≤ (d.toNat - 64) * 26 ^ r.length := Nat.mul_le_mul_right _ (by omega)
    have h2 : (d.toNat - 64) * 26 ^ r.length ≤ 26 * 26 ^ r.length := Nat.mul_le_mul_right _ (by omega)
    omega

theorem mul_out (q r P : Nat) : q * (P * 26) + (r + 1) * P = (q * 26 + (r + 1)) * P := by
  rw [Nat.add_mul (q * 26), Nat.mul_assoc, Nat.mul_comm 26 P]

/-- One letter more ahead: what a round of the loop does. -/
theorem val_cons (c : Nat) (l : List UInt8) (hc : 0 < c) (d : UInt8) (hd : d.toNat = 65 + (c - 1) % 26) :
    (c - 1) / 26 * 26 ^ (d :: l).length + val (d :: l) = c * 26 ^ l.length + val l := by
  simp only [val, List.length_cons, Nat.pow_succ, hd]
  have e : (65 + (c - 1) % 26) - 64 = (c - 1) % 26 + 1 := by omega
  rw [e]
  have h2 : (c - 1) / 26 * 26 + ((c - 1) % 26 + 1) = c := by omega
  rw [← Nat.add_assoc, mul_out, h2]

theorem len_lt {n m c : Nat} (h : c * 26 ^ n + m < 9223372036854775808) (hc : 0 < c) : n < 14 := by
  apply Nat.lt_of_not_le
  intro hn
  have h1 : 26 ^ 14 ≤ 26 ^ n := Nat.pow_le_pow_right (by omega) hn
  have h2 : 1 * 26 ^ n ≤ c * 26 ^ n := Nat.mul_le_mul_right _ hc
  have h3 : (26 : Nat) ^ 14 = 64509974703297150976 := by decide
  omega

/-- The column's part of a reference: the letters, or '@'. -/
def colPart (l : List UInt8) : List UInt8 := if l.isEmpty then [64] else l

/-- The order of bytes, of two texts of one length. -/
def lexB : List UInt8 → List UInt8 → Bool
  | x :: xs, y :: ys => if x = y then lexB xs ys else decide (x.toNat < y.toNat)
  | _, _ => false

theorem ones_succ (n : Nat) : ones (n + 1) = 26 * ones n + 1 := by
  have := ones_eq n
  simp only [ones]
  omega

theorem head_lt {d e : Nat} {r q : List UInt8} (hr : Letters r) (hq : Letters q) (hlen : r.length = q.length) (hd : 64 ≤ d) (h : d < e) :
    (d - 64) * 26 ^ r.length + val r < (e - 64) * 26 ^ q.length + val q := by
  have b1 := val_bounds r hr
  have b2 := val_bounds q hq
  have h1 := ones_eq r.length
  rw [← hlen] at b2 ⊢
  have h2 : (d - 64 + 1) * 26 ^ r.length ≤ (e - 64) * 26 ^ r.length := Nat.mul_le_mul_right _ (by omega)
  rw [Nat.add_mul] at h2
  omega

theorem lex_letters : ∀ r q : List UInt8, Letters r → Letters q → r.length = q.length → (lexB r q = true ↔ val r < val q)
  | [], [], _, _, _ => by simp [lexB]
  | [], _ :: _, _, _, h => by simp at h
  | _ :: _, [], _, _, h => by simp at h
  | d :: r, e :: q, hr, hq, h => by
    have hlen : r.length = q.length := by simpa using h
    have ih := lex_letters r q hr.tail hq.tail hlen
    have hd := hr.head
    have he := hq.head
    by_cases c : d = e
    · subst c
      rw [lexB, if_pos rfl, ih, val, val, hlen]
      omega
    · rw [lexB, if_neg c]
      have hne : d.toNat ≠ e.toNat := fun x => c (UInt8.toNat_inj.1 x)
      by_cases hlt : d.toNat < e.toNat
      · have := head_lt hr.tail hq.tail hlen (by omega) hlt
        simp [hlt, val, this]
      · have := head_lt hq.tail hr.tail hlen.symm (by omega) (show e.toNat < d.toNat by omega)
        simp only [val]
        simp only [decide_eq_true_eq]
        omega

theorem val_len {l m : List UInt8} (hl : Letters l) (hm : Letters m) (h : l.length < m.length) : val l < val m := by
  have b1 := val_bounds l hl
  have b2 := val_bounds m hm
  have h1 := ones_succ l.length
  have h2 := ones_mono (show l.length + 1 ≤ m.length from h)
  omega

theorem val_pos {l : List UInt8} (hl : Letters l) (h : l ≠ []) : 0 < val l := by
  have := val_len Letters.nil hl (by
    cases l with
    | nil => exact absurd rfl h
    | cons d l => simp)
  simpa [val] using this

/-- COLUMNS IN SPREADSHEET ORDER ARE COLUMNS IN NUMBER's ORDER. -/
theorem col_order (l m : List UInt8) (hl : Letters l) (hm : Letters m) :
    ((colPart l).length < (colPart m).length ∨ ((colPart l).length = (colPart m).length ∧ lexB (colPart l) (colPart m) = true)) ↔ val l < val m := by
  cases l with
  | nil =>
    cases m with
    | nil => simp [colPart, lexB]
    | cons e q =>
      have hp := val_pos hm (by simp)
      have he := hm.head
      have h0 : val ([] : List UInt8) < val (e :: q) := by simpa [val] using hp
      refine ⟨fun _ => h0, fun _ => ?_⟩
      cases q with
      | nil =>
        right
        have hne : (64 : UInt8) ≠ e := fun x => by rw [← x] at he; simp at he
        refine ⟨rfl, ?_⟩
        have : (64 : UInt8).toNat < e.toNat := by simp; omega
        simp [colPart, lexB, hne]
        simpa using this
      | cons f q => left; simp [colPart]
  | cons d r =>
    cases m with
    | nil =>
      have hd := hl.head
      refine ⟨fun h => ?_, fun h => by simp [val] at h⟩
      exfalso
      rcases h with h | ⟨h1, h2⟩
      · simp [colPart] at h
      · cases r with
        | cons f r => simp [colPart] at h1
        | nil =>
          have hne : ¬ d = (64 : UInt8) := fun x => by rw [x] at hd; simp at hd
          simp only [colPart, List.isEmpty_nil, List.isEmpty_cons, if_true, if_false, lexB, Bool.false_eq_true] at h2
          rw [if_neg hne] at h2
          simp at h2
          omega
    | cons e q =>
      have c1 : colPart (d :: r) = d :: r := rfl
      have c2 : colPart (e :: q) = e :: q := rfl
      rw [c1, c2]
      have L := lex_letters (d :: r) (e :: q) hl hm
      constructor
      · rintro (h | ⟨h1, h2⟩)
        · exact val_len hl hm h
        · exact (L h1).1 h2
      · intro h
        by_cases h1 : (d :: r).length < (e :: q).length
        · exact .inl h1
        · by_cases h2 : (d :: r).length = (e :: q).length
          · exact .inr ⟨h2, (L h2).2 h⟩
          · have := val_len hm hl (by omega)
            omega

end Go.Proofs.Qxb6601360aDoor
