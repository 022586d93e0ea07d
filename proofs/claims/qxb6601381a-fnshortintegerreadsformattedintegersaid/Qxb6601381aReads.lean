import Derived.Test.Qxb6601381aShort
import Derived.Test.Qxb6601381aFormat
namespace Go.Proofs.Qxb6601381a
open Go.RowKit

/-- What the text of v reads back as. -/
def res (v b : Int) : Int × Bool := if -1000000000000000000 < v ∧ v < 1000000000000000000 ∧ fitsB (decide (v < 0)) v.natAbs b = true then (v, true) else (0, false)

theorem len_iff (u : Nat) : (Lib.decDigits u).length ≤ 18 ↔ u < 1000000000000000000 := (digits_len u 18 (by decide)).symm

theorem ans_neg {v b : Int} (h : v < 0) (hs : v.natAbs < 1000000000000000000) : ans true (v.natAbs : Int) b = res v b := by
  unfold ans res
  rw [decide_eq_true h]
  by_cases hf : fitsB true (v.natAbs : Int) b = true
  · have hc : -1000000000000000000 < v ∧ v < 1000000000000000000 ∧ fitsB true (v.natAbs : Int) b = true := ⟨by omega, by omega, hf⟩
    rw [if_pos hc, hf]
    simp
    omega
  · have hc : ¬ (-1000000000000000000 < v ∧ v < 1000000000000000000 ∧ fitsB true (v.natAbs : Int) b = true) := fun x => hf x.2.2
    rw [if_neg hc, if_neg hf]

theorem ans_pos {v b : Int} (h : ¬ v < 0) (hs : v.toNat < 1000000000000000000) : ans false (v.toNat : Int) b = res v b := by
  unfold ans res
  rw [decide_eq_false h, show (v.natAbs : Int) = (v.toNat : Int) from by omega]
  by_cases hf : fitsB false (v.toNat : Int) b = true
  · have hc : -1000000000000000000 < v ∧ v < 1000000000000000000 ∧ fitsB false (v.toNat : Int) b = true := ⟨by omega, by omega, hf⟩
    rw [if_pos hc, hf]
    simp
    omega
  · have hc : ¬ (-1000000000000000000 < v ∧ v < 1000000000000000000 ∧ fitsB false (v.toNat : Int) b = true) := fun x => hf x.2.2
    rw [if_neg hc, if_neg hf]

/-- shortInteger at the text of v. -/
theorem short_fmt (v b : Int) (g : Nat) (w : World) (h1 : 1 ≤ b) (h2 : b ≤ 9223372036854775807) (hv1 : -9223372036854775808 ≤ v) (hv2 : v ≤ 9223372036854775807)
    (hc : ∀ j (h : j < (Lib.itoa v).length), w.cell? ⟨g, j, none⟩ = some (.int .u8 ((Lib.itoa v)[j].toNat : Int))) :
    Calls Try.prog 30 #[.slice (some ⟨g, 0, none⟩) (Lib.itoa v).length (Lib.itoa v).length, .int .i64 b] w fun e w' => e = .returned (.tuple #[.int .i64 (res v b).1, .bool (res v b).2]) ∧ w = w' := by
  by_cases hneg : v < 0
  · have ei : Lib.itoa v = 45 :: Lib.decDigits v.natAbs := by rw [Lib.itoa, if_pos hneg]
    obtain ⟨d1, d2, d3⟩ := digits_of v.natAbs
    have hpos : 1 ≤ (Lib.decDigits v.natAbs).length := List.length_pos_iff.2 d3
    have hlen19 : (Lib.decDigits v.natAbs).length ≤ 19 := (digits_len v.natAbs 19 (by decide)).1 (by simp; omega)
    rw [ei] at hc ⊢
    by_cases hs : v.natAbs < 1000000000000000000
    · have hl := (len_iff v.natAbs).2 hs
      have hdv : dv (ofList (45 :: Lib.decDigits v.natAbs)) 1 (Lib.decDigits v.natAbs).length = (v.natAbs : Int) := by
        rw [dv_list (Lib.decDigits v.natAbs) d1 _ 1 (fun j hj => by simp [ofList, Nat.add_comm 1 j, hj]) _ (Nat.le_refl _), List.take_length, d2]
      have R := short_neg g 0 (Lib.decDigits v.natAbs).length ((Lib.decDigits v.natAbs).length + 1) (ofList (45 :: Lib.decDigits v.natAbs)) b w hpos hl h1 h2 (Nat.le_refl _)
        (fun j hj => by rw [Nat.zero_add, hc j hj]; simp [ofList, hj]) rfl (dig_list _ d1 _ 1 (fun j hj => by simp [ofList, Nat.add_comm 1 j, hj]))
      rw [hdv] at R
      have e := ans_neg (b := b) hneg hs
      rw [e] at R
      exact R
    · have hl : 18 < (Lib.decDigits v.natAbs).length := by
        have := len_iff v.natAbs; omega
      have R := short_neg_len g 0 (Lib.decDigits v.natAbs).length ((Lib.decDigits v.natAbs).length + 1) b w (by omega) (Nat.le_refl _) (.inr hl) (by have := hc 0 (by simp); simpa using this)
      have e : res v b = (0, false) := by
        unfold res; rw [if_neg (fun h => by omega)]
      rw [e]
      exact R
  · have ei : Lib.itoa v = Lib.decDigits v.toNat := by rw [Lib.itoa, if_neg hneg]
    obtain ⟨d1, d2, d3⟩ := digits_of v.toNat
    have hpos : 1 ≤ (Lib.decDigits v.toNat).length := List.length_pos_iff.2 d3
    have hlen19 : (Lib.decDigits v.toNat).length ≤ 19 := (digits_len v.toNat 19 (by decide)).1 (by simp; omega)
    rw [ei] at hc ⊢
    have hm : ∀ h : 0 < (Lib.decDigits v.toNat).length, ((Lib.decDigits v.toNat)[0].toNat : Int) ≠ 45 := fun h => by
      have := d1 _ (List.getElem_mem h); omega
    by_cases hs : v.toNat < 1000000000000000000
    · have hl := (len_iff v.toNat).2 hs
      have hdv : dv (ofList (Lib.decDigits v.toNat)) 0 (Lib.decDigits v.toNat).length = (v.toNat : Int) := by
        rw [dv_list (Lib.decDigits v.toNat) d1 _ 0 (fun j hj => by simp [ofList, hj]) _ (Nat.le_refl _), List.take_length, d2]
      have R := short_pos g 0 (Lib.decDigits v.toNat).length (Lib.decDigits v.toNat).length (ofList (Lib.decDigits v.toNat)) b w hpos hl h1 h2
        (fun j hj => by rw [Nat.zero_add, hc j hj]; simp [ofList, hj]) (fun j hj => by have := ((Lib.decDigits v.toNat).getD j 0).toNat_lt; unfold ofList; omega)
        (by have := hm hpos; simpa [ofList, List.getD, List.getElem?_eq_getElem hpos] using this) (dig_list _ d1 _ 0 (fun j hj => by simp [ofList, hj]))
      rw [hdv] at R
      have e := ans_pos (b := b) hneg hs
      rw [e] at R
      exact R
    · have hl : 18 < (Lib.decDigits v.toNat).length := by
        have := len_iff v.toNat; omega
      have R := short_pos_len (some ⟨g, 0, none⟩) g 0 (Lib.decDigits v.toNat).length (Lib.decDigits v.toNat).length ((Lib.decDigits v.toNat)[0].toNat : Int) b w (by omega) (.inr hl) (fun _ => rfl) (fun _ => hc 0 hpos) (hm hpos)
      have e : res v b = (0, false) := by
        unfold res; rw [if_neg (fun h => by omega)]
      rw [e]
      exact R

set_option maxHeartbeats 400000 in
theorem isShort_any (v : Int) (w : World) : Calls Try.prog 14 #[.int .i64 v] w fun e w' => e = .returned (.bool (decide (-1000000000000000000 < v ∧ v < 1000000000000000000))) ∧ w = w' := by
  by_cases h1 : -1000000000000000000 < v
  · by_cases h2 : v < 1000000000000000000
    · rw [decide_eq_true ⟨h1, h2⟩]
      go_enter Try.func14, Try.ntmps14
      go_wp2
      go_ret
      exact ⟨rfl, rfl⟩
    · rw [decide_eq_false (fun h => h2 h.2)]
      go_enter Try.func14, Try.ntmps14
      go_wp2
      go_ret
      exact ⟨rfl, rfl⟩
  · rw [decide_eq_false (fun h => h1 h.1)]
    go_enter Try.func14, Try.ntmps14
    go_wp2
    go_ret
    exact ⟨rfl, rfl⟩

set_option maxHeartbeats 400000 in
theorem fits_any (v b : Int) (w : World) (h1 : 1 ≤ b) (h2 : b ≤ 9223372036854775807) (hv1 : -9223372036854775808 ≤ v) (hv2 : v ≤ 9223372036854775807) :
    Calls Try.prog 15 #[.int .i64 v, .int .i64 b] w fun e w' => e = .returned (.bool (fitsB (decide (v < 0)) v.natAbs b)) ∧ w = w' := by
  by_cases h : v < 0
  · rw [decide_eq_true h, show (v.natAbs : Int) = -(v + 1) + 1 from by omega]
    go_enter Try.func15, Try.ntmps15
    go_wp2_with (go_at_call 32; refine (mag_any _ _ _ _ h1 h2).mono ?_; rintro e w' ⟨rfl, rfl⟩)
    go_ret
    exact ⟨rfl, rfl⟩
  · rw [decide_eq_false h, show (v.natAbs : Int) = v from by omega]
    go_enter Try.func15, Try.ntmps15
    go_wp2_with (go_at_call 32; refine (mag_any _ _ _ _ h1 h2).mono ?_; rintro e w' ⟨rfl, rfl⟩)
    go_ret
    exact ⟨rfl, rfl⟩

theorem format_any (v : Int) (w : World) (hv1 : -9223372036854775808 ≤ v) (hv2 : v ≤ 9223372036854775807) :
    Calls Try.prog 13 #[.int .i64 v] w fun e w' => Leaves (Lib.itoa v) w e w' := by
  by_cases h : v < 0
  · have e : v = -((v.natAbs : Nat) : Int) := by omega
    have R := format_neg v.natAbs w (by omega) (by omega)
    rw [← e] at R
    rw [Lib.itoa, if_pos h]
    exact R
  · rw [Lib.itoa, if_neg h]
    by_cases h0 : v = 0
    · subst h0; exact format_zero w
    · have e : v = ((v.toNat : Nat) : Int) := by omega
      have R := format_pos v.toNat w (by omega) (by omega)
      rw [← e] at R
      exact R

set_option maxHeartbeats 400000 in
theorem reads_law (v b : Int) (w : World) (h2 : b ≤ 9223372036854775807) (hv1 : -9223372036854775808 ≤ v) (hv2 : v ≤ 9223372036854775807) :
    Calls Try.prog 4 #[.int .i64 v, .int .i64 b] w fun e w' => e = .returned (.bool true) ∧ Below w.heap.size w w' := by
  by_cases h1 : b < 1
  · go_enter Try.func4, Try.ntmps4
    go_wp2_with fail
    go_ret
    exact ⟨rfl, Below.refl _ _⟩
  · have h1' : 1 ≤ b := by omega
    go_enter Try.func4, Try.ntmps4
    go_wp2_with fail
    refine (format_any v w hv1 hv2).mono ?_
    rintro e w1 ⟨g, rfl, hc, hb⟩
    have HS := short_fmt v b g w1 h1' h2 hv1 hv2 hc
    by_cases hsh : -1000000000000000000 < v ∧ v < 1000000000000000000
    · have HI := isShort_any v w1
      rw [decide_eq_true hsh] at HI
      have HF := fits_any v b w1 h1' h2 hv1 hv2
      cases hfit : fitsB (decide (v < 0)) v.natAbs b
      · have er : res v b = (0, false) := by unfold res; rw [if_neg (fun x => by rw [hfit] at x; exact absurd x.2.2 (by decide))]
        rw [er] at HS
        rw [hfit] at HF
        have H1 : Hid (Calls Try.prog 30 #[.slice (some ⟨g, 0, none⟩) (Lib.itoa v).length (Lib.itoa v).length, .int .i64 b] w1 fun e w' => e = .returned (.tuple #[.int .i64 0, .bool false]) ∧ w1 = w') := HS
        have H2 : Hid (Calls Try.prog 14 #[.int .i64 v] w1 fun e w' => e = .returned (.bool true) ∧ w1 = w') := HI
        have H3 : Hid (Calls Try.prog 15 #[.int .i64 v, .int .i64 b] w1 fun e w' => e = .returned (.bool false) ∧ w1 = w') := HF
        clear HS HI HF hc hfit er
        go_wp2_with (first | (go_at_call 11; go_in) | (go_at_call 30; refine (Hid.out H1).mono ?_; rintro e w' ⟨rfl, rfl⟩) | (go_at_call 14; refine (Hid.out H2).mono ?_; rintro e w' ⟨rfl, rfl⟩) | (go_at_call 15; refine (Hid.out H3).mono ?_; rintro e w' ⟨rfl, rfl⟩))
        go_ret
        exact ⟨rfl, hb⟩
      · have er : res v b = (v, true) := by unfold res; rw [if_pos ⟨hsh.1, hsh.2, hfit⟩]
        rw [er] at HS
        rw [hfit] at HF
        have H1 : Hid (Calls Try.prog 30 #[.slice (some ⟨g, 0, none⟩) (Lib.itoa v).length (Lib.itoa v).length, .int .i64 b] w1 fun e w' => e = .returned (.tuple #[.int .i64 v, .bool true]) ∧ w1 = w') := HS
        have H2 : Hid (Calls Try.prog 14 #[.int .i64 v] w1 fun e w' => e = .returned (.bool true) ∧ w1 = w') := HI
        have H3 : Hid (Calls Try.prog 15 #[.int .i64 v, .int .i64 b] w1 fun e w' => e = .returned (.bool true) ∧ w1 = w') := HF
        clear HS HI HF hc hfit er
        go_wp2_with (first | (go_at_call 11; go_in) | (go_at_call 30; refine (Hid.out H1).mono ?_; rintro e w' ⟨rfl, rfl⟩) | (go_at_call 14; refine (Hid.out H2).mono ?_; rintro e w' ⟨rfl, rfl⟩) | (go_at_call 15; refine (Hid.out H3).mono ?_; rintro e w' ⟨rfl, rfl⟩))
        go_ret
        exact ⟨rfl, hb⟩
    · have HI := isShort_any v w1
      rw [decide_eq_false hsh] at HI
      have er : res v b = (0, false) := by unfold res; rw [if_neg (fun x => hsh ⟨x.1, x.2.1⟩)]
      rw [er] at HS
      have H1 : Hid (Calls Try.prog 30 #[.slice (some ⟨g, 0, none⟩) (Lib.itoa v).length (Lib.itoa v).length, .int .i64 b] w1 fun e w' => e = .returned (.tuple #[.int .i64 0, .bool false]) ∧ w1 = w') := HS
      have H2 : Hid (Calls Try.prog 14 #[.int .i64 v] w1 fun e w' => e = .returned (.bool false) ∧ w1 = w') := HI
      clear HS HI hc er hsh
      go_wp2_with (first | (go_at_call 11; go_in) | (go_at_call 30; refine (Hid.out H1).mono ?_; rintro e w' ⟨rfl, rfl⟩) | (go_at_call 14; refine (Hid.out H2).mono ?_; rintro e w' ⟨rfl, rfl⟩))
      go_ret
      exact ⟨rfl, hb⟩
end Go.Proofs.Qxb6601381a
