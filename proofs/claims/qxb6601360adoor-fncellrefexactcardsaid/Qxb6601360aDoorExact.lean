import Derived.Test.Qxb6601360aDoorCellRef
import Derived.Test.Qxb6601360aDoorPlain2
namespace Go.Proofs.Qxb6601360aDoor
open Go.RowKit

set_option maxHeartbeats 400000 in
theorem isL_yes (x : Int) (w : World) (h1 : 64 ≤ x) (h2 : x ≤ 90) : Calls Tryd.prog 6 #[.int .u8 x] w fun e w' => e = .returned (.bool true) ∧ w = w' := by
  by_cases h : x = 64
  · subst h
    go_enter Tryd.func6, Tryd.ntmps6
    go_wp2
    go_ret
    exact ⟨rfl, rfl⟩
  · have h3 : 65 ≤ x := by omega
    have h4 : (x == 64) = false := by simp [h]
    go_enter Tryd.func6, Tryd.ntmps6
    go_wp2
    go_ret
    exact ⟨rfl, rfl⟩

set_option maxHeartbeats 400000 in
theorem isL_no (x : Int) (w : World) (h1 : x < 64) : Calls Tryd.prog 6 #[.int .u8 x] w fun e w' => e = .returned (.bool false) ∧ w = w' := by
  have h4 : (x == 64) = false := by simp; omega
  have h5 : ¬ 65 ≤ x := by omega
  go_enter Tryd.func6, Tryd.ntmps6
  go_wp2
  go_ret
  exact ⟨rfl, rfl⟩

theorem take_snoc (s : ByteArray) (k : Nat) (h : k < s.size) : s.data.toList.take (k + 1) = s.data.toList.take k ++ [s[k]] := by
  rw [List.take_succ_eq_append_getElem (by simpa using h)]; rfl

theorem mem_at (s : ByteArray) (k : Nat) (h : k < s.size) : s[k] ∈ s.data.toList := by
  have : s[k] = s.data.toList[k]'(by simpa using h) := rfl
  rw [this]; exact List.getElem_mem _

set_option maxHeartbeats 400000 in
theorem bij_any (s : ByteArray) (n : Nat) (w : World) (hs : Letters s.data.toList) (hv : val s.data.toList = n) (hp : 0 < s.size) (hm : s.size ≤ 14) (hn : n ≤ 9223372036854775807) :
    Calls Tryd.prog 7 #[.string s, .int .u64 n] w fun e w' => e = .returned (.bool true) ∧ w = w' := by
  have hp0 : ((s.size : Int) == 0) = false := beq_eq_false_iff_ne.2 (by omega)
  have HV : Hid _ := hv
  have HS : Hid _ := hs
  clear hv hs
  go_enter Tryd.func7, Tryd.ntmps7
  go_wp2
  go_loop [5, 6] (fun v i => ∃ k u : Nat, k ≤ s.size ∧ i = .int .i64 k ∧ v = .int .u64 u ∧ u = val (s.data.toList.take k)) (fun _ i => s.size - (intOf i).toNat)
  case atStart => exact ⟨0, 0, Nat.zero_le _, rfl, rfl, rfl⟩
  case round =>
    obtain ⟨k, u, hk, rfl, rfl, hu⟩ := hrel
    by_cases hlt : k < s.size
    · have hd := HS.out _ (mem_at s k hlt)
      have hsn : val (s.data.toList.take (k + 1)) = u * 26 + (s[k].toNat - 64) := by rw [take_snoc s k hlt, val_snoc, ← hu]
      have hle : val (s.data.toList.take (k + 1)) ≤ 9223372036854775807 := Nat.le_trans (val_take_le _ _) (by rw [HV.out]; exact hn)
      have hub : u ≤ 354745078340568301 := by omega
      have d1 : (65 : Int) ≤ (s[k].toNat : Int) := by omega
      have d2 : (s[k].toNat : Int) ≤ 90 := by omega
      have HN : Hid (val (s.data.toList.take (k + 1)) = u * 26 + (s[k].toNat - 64)) := hsn
      clear hsn hle hd hu
      go_wp2
      go_round
      case rel => exact ⟨k + 1, u * 26 + (s[k].toNat - 64), by omega, by go_num, congrArg (Value.int .u64) (by omega), HN.out.symm⟩
      case measure => simp [intOf]; omega
    · have e : u = n := by
        rw [List.take_of_length_le (by simpa using hlt), HV.out] at hu; exact hu
      subst e
      clear hu
      go_wp2
      go_ret
      exact ⟨rfl, rfl⟩

/-- The digits part: no '-' ahead. -/
structure IsDec (s : ByteArray) (n : Nat) : Prop where
  digits : Digits s.data.toList
  value : dec s.data.toList = n
  pos : 0 < s.size
  short : s.size ≤ 20
  head : ∀ h : 0 < s.size, (s[0]'h).toNat = 48 → s.size = 1

set_option maxHeartbeats 400000 in
theorem dec_pos (s : ByteArray) (n : Nat) (w : World) (h : IsDec s n) (hn : n ≤ 9223372036854775807) :
    Calls Tryd.prog 8 #[.string s, .int .i64 n] w fun e w' => e = .returned (.bool true) ∧ w = w' := by
  obtain ⟨h1, h2, h3, h4, h5⟩ := h
  have hp0 : ((s.size : Int) == 0) = false := beq_eq_false_iff_ne.2 (by omega)
  have hpz : (0 : Int) < (s.size : Int) := by omega
  have hd0 := h1 _ (mem_at s 0 h3)
  have hz : ((s[0].toNat : Int) == 45) = false := beq_eq_false_iff_ne.2 (by omega)
  have HV : Hid _ := h2
  have HS : Hid _ := h1
  have H5 := h5 h3
  clear h1 h2 h5 hd0
  go_enter Tryd.func8, Tryd.ntmps8
  go_wp2_with fail
  all_goals go_loop [6, 7] (fun v i => ∃ k u : Nat, k ≤ s.size ∧ i = .int .i64 k ∧ v = .int .u64 u ∧ u = dec (s.data.toList.take k)) (fun _ i => s.size - (intOf i).toNat)
  all_goals first | exact ⟨0, 0, Nat.zero_le _, rfl, rfl, rfl⟩ | skip
  all_goals
    obtain ⟨k, u, hk, rfl, rfl, hu⟩ := hrel
    by_cases hlt : k < s.size
    · have hd := HS.out _ (mem_at s k hlt)
      have hsn : dec (s.data.toList.take (k + 1)) = u * 10 + (s[k].toNat - 48) := by rw [take_snoc s k hlt, dec_snoc, ← hu]
      have hle : dec (s.data.toList.take (k + 1)) ≤ 9223372036854775808 := Nat.le_trans (dec_take_le _ _) (by rw [HV.out]; omega)
      have hub : u ≤ 922337203685477580 := by omega
      have d1 : (48 : Int) ≤ (s[k].toNat : Int) := by omega
      have d2 : (s[k].toNat : Int) ≤ 57 := by omega
      have HN : Hid (dec (s.data.toList.take (k + 1)) = u * 10 + (s[k].toNat - 48)) := hsn
      clear hsn hle hd hu
      go_wp2
      go_round
      case rel => exact ⟨k + 1, u * 10 + (s[k].toNat - 48), by omega, by go_num, congrArg (Value.int .u64) (by omega), HN.out.symm⟩
      case measure => simp [intOf]; omega
    · have e : u = n := by
        rw [List.take_of_length_le (by simpa using hlt), HV.out] at hu; exact hu
      subst e
      clear hu
      go_wp2
      go_ret
      exact ⟨rfl, rfl⟩

theorem ret_neg (u : Nat) : Ending.returned (.bool ((u : Int) == -(-(u : Int) + 1) + 1)) = .returned (.bool true) := by
  rw [beq_iff_eq.2 (by omega)]

set_option maxHeartbeats 400000 in
theorem dec_neg (s t : ByteArray) (n : Nat) (w : World) (hs : 0 < s.size) (hs2 : s.size ≤ 21) (hm : (s[0]'hs).toNat = 45) (hcut : s.extract 1 s.size = t) (h : IsDec t n) (h0 : 0 < n) (hn : n ≤ 9223372036854775808) :
    Calls Tryd.prog 8 #[.string s, .int .i64 (-(n : Int))] w fun e w' => e = .returned (.bool true) ∧ w = w' := by
  obtain ⟨h1, h2, h3, h4, h5⟩ := h
  have hp0 : ((t.size : Int) == 0) = false := beq_eq_false_iff_ne.2 (by omega)
  have hpz : (0 : Int) < (s.size : Int) := by omega
  have hpt : (0 : Int) < (t.size : Int) := by omega
  have hd0 := h1 _ (mem_at t 0 h3)
  have HV : Hid _ := h2
  have HS : Hid _ := h1
  have H5 := h5 h3
  clear h1 h2 h5 hd0
  go_enter Tryd.func8, Tryd.ntmps8
  go_wp2_with fail
  all_goals go_loop [6, 7] (fun v i => ∃ k u : Nat, k ≤ t.size ∧ i = .int .i64 k ∧ v = .int .u64 u ∧ u = dec (t.data.toList.take k)) (fun _ i => t.size - (intOf i).toNat)
  all_goals first | exact ⟨0, 0, Nat.zero_le _, rfl, rfl, rfl⟩ | skip
  all_goals
    obtain ⟨k, u, hk, rfl, rfl, hu⟩ := hrel
    by_cases hlt : k < t.size
    · have hd := HS.out _ (mem_at t k hlt)
      have hsn : dec (t.data.toList.take (k + 1)) = u * 10 + (t[k].toNat - 48) := by rw [take_snoc t k hlt, dec_snoc, ← hu]
      have hle : dec (t.data.toList.take (k + 1)) ≤ 9223372036854775808 := Nat.le_trans (dec_take_le _ _) (by rw [HV.out]; omega)
      have hub : u ≤ 922337203685477580 := by omega
      have d1 : (48 : Int) ≤ (t[k].toNat : Int) := by omega
      have d2 : (t[k].toNat : Int) ≤ 57 := by omega
      have HN : Hid (dec (t.data.toList.take (k + 1)) = u * 10 + (t[k].toNat - 48)) := hsn
      clear hsn hle hd hu
      go_wp2
      go_round
      case rel => exact ⟨k + 1, u * 10 + (t[k].toNat - 48), by omega, by go_num, congrArg (Value.int .u64) (by omega), HN.out.symm⟩
      case measure => simp [intOf]; omega
    · have e : u = n := by
        rw [List.take_of_length_le (by simpa using hlt), HV.out] at hu; exact hu
      subst e
      clear hu
      go_wp2
      go_ret
      exact ⟨ret_neg _, rfl⟩

/-- A reference: letters ahead, the row's digits behind. -/
structure Parts (s a b : ByteArray) (n : Nat) : Prop where
  size : n < s.size
  small : s.size ≤ 100
  ahead : ∀ k (h : k < s.size), k < n → 64 ≤ (s[k]'h).toNat ∧ (s[k]'h).toNat ≤ 90
  stop : ∀ h : n < s.size, (s[n]'h).toNat < 64
  left : s.extract 0 n = a
  right : s.extract n s.size = b

/-- The column's part reads back as the column. -/
def Cols (c : Int) (a : ByteArray) : Prop := (c ≤ 0 ∧ a.toList = [64]) ∨ (0 < c ∧ ∀ W, Calls Tryd.prog 7 #[.string a, .int .u64 c] W fun e w' => e = .returned (.bool true) ∧ W = w')
/-- The row's part reads back as the row. -/
def Rws (row : Int) (b : ByteArray) : Prop := ∀ W, Calls Tryd.prog 8 #[.string b, .int .i64 row] W fun e w' => e = .returned (.bool true) ∧ W = w'

set_option maxHeartbeats 400000 in
theorem exact_walk (c row : Int) (w : World) (hc : c ≤ 9223372036854775807)
    (href : Hid (Calls Tryd.prog 5 #[.int .i64 c, .int .i64 row] w fun e w' => ∃ s a b n, Parts s a b n ∧ Cols c a ∧ Rws row b ∧ e = .returned (.string s) ∧ Below w.heap.size w w')) :
    Calls Tryd.prog 3 #[.int .i64 c, .int .i64 row] w fun e w' => e = .returned (.bool true) ∧ Below w.heap.size w w' := by
  go_enter Tryd.func3, Tryd.ntmps3
  go_wp2_with fail
  refine (Hid.out href).mono ?_
  rintro e w1 ⟨s, a, b, n, ⟨p1, p2, p3, p4, p5, p6⟩, hcol, hrow, rfl, hb1⟩
  go_wp2_with fail
  go_loop [6] (fun i => ∃ k : Nat, k ≤ n ∧ i = .int .i64 k) (fun i => n - (intOf i).toNat)
  case atStart => exact ⟨0, Nat.zero_le _, rfl⟩
  case round =>
    obtain ⟨k, hk, rfl⟩ := hrel
    by_cases hlt : k < n
    · have hks : k < s.size := by omega
      have hb := p3 k hks hlt
      clear p3 p4 p5 p6
      go_wp2_with (go_at_call 6; refine (isL_yes _ _ (by omega) (by omega)).mono ?_; rintro e w' ⟨rfl, rfl⟩)
      go_round
      case rel => exact ⟨k + 1, by omega, by go_num⟩
      case measure => simp [intOf]; omega
    · obtain rfl : k = n := by omega
      have hb := p4 p1
      clear p3 p4
      rcases hcol with ⟨hc0, hat⟩ | ⟨hc1, h7⟩
      · have hat' : (!a.toList == [64]) = false := by rw [hat]; rfl
        go_wp2_with (first | (go_at_call 6; refine (isL_no _ _ (by omega)).mono ?_; rintro e w' ⟨rfl, rfl⟩) | (go_at_call 8; refine (hrow _).mono ?_; rintro e w' ⟨rfl, rfl⟩))
        go_ret
        exact ⟨rfl, hb1⟩
      · have H7 : Hid (∀ W, Calls Tryd.prog 7 #[.string a, .int .u64 c] W fun e w' => e = .returned (.bool true) ∧ W = w') := h7
        clear h7
        go_wp2_with (first | (go_at_call 6; refine (isL_no _ _ (by omega)).mono ?_; rintro e w' ⟨rfl, rfl⟩) | (go_at_call 7; refine (Hid.out H7 _).mono ?_; rintro e w' ⟨rfl, rfl⟩) | (go_at_call 8; refine (hrow _).mono ?_; rintro e w' ⟨rfl, rfl⟩))
        go_ret
        exact ⟨rfl, hb1⟩

theorem decp_of (u : Nat) (h : u < 100000000000000000000) : IsDec ⟨(Lib.decDigits u).toArray⟩ u := by
  obtain ⟨i1, i2, i3, i4, i5, i6⟩ := digits_of u
  have hl := digits_len u 20 (by simpa using h) (by decide)
  have hp : 0 < (Lib.decDigits u).length := List.length_pos_iff.2 i3
  refine ⟨i1, i2, by simpa [ByteArray.size] using hp, by simpa [ByteArray.size] using hl, fun hz h48 => ?_⟩
  by_cases hu : u < 10
  · simpa [ByteArray.size] using i6 hu
  · exfalso
    refine i4 (by omega) (Lib.decDigits u)[0] (by rw [List.head?_eq_getElem?, List.getElem?_eq_getElem hp]; rfl) ?_
    exact h48

theorem rws_of (row : Int) (h0 : -9223372036854775808 ≤ row) (h1 : row ≤ 9223372036854775807) : Rws row ⟨(Lib.itoa row).toArray⟩ := by
  intro W
  unfold Lib.itoa
  by_cases h : row < 0
  · rw [if_pos h]
    have e : row = -(row.natAbs : Int) := by omega
    have D := decp_of row.natAbs (by omega)
    have hsz : (⟨(45 :: Lib.decDigits row.natAbs).toArray⟩ : ByteArray).size = (Lib.decDigits row.natAbs).length + 1 := by simp [ByteArray.size]
    have hds : (⟨(Lib.decDigits row.natAbs).toArray⟩ : ByteArray).size = (Lib.decDigits row.natAbs).length := by simp [ByteArray.size]
    have hd := D.short
    rw [hds] at hd
    have R := dec_neg ⟨(45 :: Lib.decDigits row.natAbs).toArray⟩ ⟨(Lib.decDigits row.natAbs).toArray⟩ row.natAbs W (by rw [hsz]; omega) (by rw [hsz]; omega) rfl
      (by apply ByteArray.ext; rw [hsz]; simp [ByteArray.data_extract]) D (by omega) (by omega)
    rw [← e] at R
    exact R
  · rw [if_neg h]
    have e : row = (row.toNat : Int) := by omega
    have R := dec_pos ⟨(Lib.decDigits row.toNat).toArray⟩ row.toNat W (decp_of row.toNat (by omega)) (by omega)
    rw [← e] at R
    exact R

theorem colPart_mem {l : List UInt8} (hl : Letters l) : ∀ d ∈ colPart l, 64 ≤ d.toNat ∧ d.toNat ≤ 90 := by
  cases l with
  | nil => intro d hd; obtain rfl : d = 64 := by simpa [colPart] using hd
           decide
  | cons x l => intro d hd
                have := hl d hd
                omega

theorem itoa_head (row : Int) : ∃ d r, Lib.itoa row = d :: r ∧ d.toNat < 64 ∧ (Lib.itoa row).length = r.length + 1 := by
  unfold Lib.itoa
  by_cases h : row < 0
  · rw [if_pos h]; exact ⟨45, _, rfl, by decide, rfl⟩
  · rw [if_neg h]
    obtain ⟨i1, _, i3, _⟩ := digits_of row.toNat
    cases hc : Lib.decDigits row.toNat with
    | nil => exact absurd hc i3
    | cons d r =>
      refine ⟨d, r, rfl, ?_, rfl⟩
      have := i1 d (by rw [hc]; exact List.mem_cons_self ..)
      omega

theorem itoa_short (row : Int) (h0 : -9223372036854775808 ≤ row) (h1 : row ≤ 9223372036854775807) : (Lib.itoa row).length ≤ 21 := by
  unfold Lib.itoa
  by_cases h : row < 0
  · rw [if_pos h]
    have := digits_len row.natAbs 20 (by simp; omega) (by decide)
    simp; omega
  · rw [if_neg h]
    have := digits_len row.toNat 20 (by simp; omega) (by decide)
    omega

theorem parts_of {l : List UInt8} (hl : Letters l) (hll : l.length ≤ 14) (row : Int) (h0 : -9223372036854775808 ≤ row) (h1 : row ≤ 9223372036854775807) :
    Parts ⟨(colPart l ++ Lib.itoa row).toArray⟩ ⟨(colPart l).toArray⟩ ⟨(Lib.itoa row).toArray⟩ (colPart l).length := by
  obtain ⟨d, r, hi, hd, hlen⟩ := itoa_head row
  have hs := itoa_short row h0 h1
  have hsz : (⟨(colPart l ++ Lib.itoa row).toArray⟩ : ByteArray).size = (colPart l).length + (Lib.itoa row).length := by simp [ByteArray.size]
  have hcl : (colPart l).length ≤ 14 := by
    cases l with
    | nil => simp [colPart]
    | cons x l => exact hll
  refine ⟨by rw [hsz]; omega, by rw [hsz]; omega, fun k hk hkn => ?_, fun hk => ?_, ?_, ?_⟩
  · have e : (⟨(colPart l ++ Lib.itoa row).toArray⟩ : ByteArray)[k] = (colPart l)[k] := by
      show (colPart l ++ Lib.itoa row).toArray[k]'_ = _
      simp [List.getElem_append_left hkn]
    rw [e]
    exact colPart_mem hl _ (List.getElem_mem _)
  · have e : (⟨(colPart l ++ Lib.itoa row).toArray⟩ : ByteArray)[(colPart l).length] = d := by
      show (colPart l ++ Lib.itoa row).toArray[(colPart l).length]'_ = _
      simp [hi]
    rw [e]
    exact hd
  · apply ByteArray.ext
    simp [ByteArray.data_extract]
  · apply ByteArray.ext
    rw [hsz]
    simp [ByteArray.data_extract]

theorem cols_of {l : List UInt8} (hl : Letters l) (hll : l.length ≤ 14) (c : Int) (hv : val l = c.toNat) (hc : c ≤ 9223372036854775807) : Cols c ⟨(colPart l).toArray⟩ := by
  by_cases h : c ≤ 0
  · left
    refine ⟨h, ?_⟩
    cases l with
    | nil => show (⟨#[(64 : UInt8)]⟩ : ByteArray).toList = [64]; decide +kernel
    | cons d r =>
      have := val_pos hl (by simp)
      omega
  · right
    refine ⟨by omega, fun W => ?_⟩
    cases l with
    | nil => simp [val] at hv; omega
    | cons d r =>
      have e : c = ((c.toNat : Nat) : Int) := by omega
      have B := bij_any ⟨(d :: r).toArray⟩ c.toNat W hl hv (by simp [ByteArray.size]) (by simpa [ByteArray.size] using hll) (by omega)
      rw [← e] at B
      exact B

theorem tabGlobal : Tryd.prog.globalNamed Tryd.tabName = some 0 := by kernel_rfl

theorem below_of_grow (w : World) (k : Nat) (os : Array Obj) : Below w.heap.size w (Sort.grow (w.drewN k) os) :=
  ⟨rfl, rfl, rfl, by simp [Sort.grow, World.drewN], fun i hi => by
    show (w.heap ++ os)[i]? = w.heap[i]?
    rw [Array.getElem?_append_left hi]⟩

set_option maxHeartbeats 400000 in
theorem ref_any (c row : Int) (w : World) (hc : c ≤ 9223372036854775807) (h0 : -9223372036854775808 ≤ row) (h1 : row ≤ 9223372036854775807)
    (htab : Lib.TabIs Tryd.prog w Tryd.tabName .u64 Lib.pow10Tab) :
    Calls Tryd.prog 5 #[.int .i64 c, .int .i64 row] w fun e w' => ∃ s a b n, Parts s a b n ∧ Cols c a ∧ Rws row b ∧ e = .returned (.string s) ∧ Below w.heap.size w w' := by
  have H := cellRef_any c row (Lib.itoa row) w hc (by have := itoa_short row h0 h1; omega) (fun W hW =>
    (Tryd.strconv_Itoa row h0 h1 W (Joins.tab_stays tabGlobal htab hW (Nat.le_refl _))).mono fun e w' ⟨he, k, os, hw⟩ => ⟨he, hw ▸ below_of_grow W k os⟩)
  have HH : Hid (Calls Tryd.prog 10 #[.int .i64 c, .int .i64 row] w fun e w' => ∃ l : List UInt8, Letters l ∧ val l = c.toNat ∧ l.length ≤ 14 ∧ e = .returned (.string ⟨(colPart l ++ Lib.itoa row).toArray⟩) ∧ Below w.heap.size w w') := H
  clear H htab
  go_enter Tryd.func5, Tryd.ntmps5
  go_wp2_with fail
  refine (Hid.out HH).mono ?_
  rintro e w1 ⟨l, g1, g2, g3, rfl, g5⟩
  have P := parts_of g1 g3 row h0 h1
  have Q := cols_of g1 g3 c g2 hc
  have R := rws_of row h0 h1
  go_wp2_with fail
  go_ret
  exact ⟨_, _, _, _, P, Q, R, rfl, g5⟩
end Go.Proofs.Qxb6601360aDoor
