import Derived.Test.Qxb6601360aDoorCellRef
namespace Go.Proofs.Qxb6601360aDoor
open Go.RowKit

theorem drop_cons (s : ByteArray) (k : Nat) (h : k < s.size) : s.data.toList.drop k = s[k] :: s.data.toList.drop (k + 1) := by
  rw [List.drop_eq_getElem_cons (by simpa using h)]; rfl

theorem lexB_step (s t : ByteArray) (k : Nat) (hs : k < s.size) (ht : k < t.size) (h : s[k].toNat = t[k].toNat) :
    lexB (s.data.toList.drop k) (t.data.toList.drop k) = lexB (s.data.toList.drop (k + 1)) (t.data.toList.drop (k + 1)) := by
  rw [drop_cons s k hs, drop_cons t k ht, lexB, if_pos (UInt8.toNat_inj.1 h)]

theorem lexB_stop (s t : ByteArray) (k : Nat) (hs : k < s.size) (ht : k < t.size) (h : s[k].toNat ≠ t[k].toNat) :
    lexB (s.data.toList.drop k) (t.data.toList.drop k) = decide (s[k].toNat < t[k].toNat) := by
  rw [drop_cons s k hs, drop_cons t k ht, lexB, if_neg (fun e => h (by rw [e]))]

theorem lexB_end (s t : ByteArray) (k : Nat) (hs : ¬ k < s.size) : lexB (s.data.toList.drop k) (t.data.toList.drop k) = false := by
  rw [List.drop_eq_nil_of_le (by simpa using hs)]; rfl

set_option maxHeartbeats 400000 in
theorem less_any (s t : ByteArray) (w : World) (hst : t.size = s.size) (hm : s.size ≤ 9223372036854775807) :
    Calls Tryd.prog 9 #[.string s, .string t] w fun e w' => e = .returned (.bool (lexB s.data.toList t.data.toList)) ∧ Below w.heap.size w w' := by
  go_enter Tryd.func9, Tryd.ntmps9
  go_wp2
  go_loopw [5] (fun i wr => ∃ k : Nat, k ≤ s.size ∧ i = .int .i64 k ∧ lexB (s.data.toList.drop k) (t.data.toList.drop k) = lexB s.data.toList t.data.toList ∧ Below w.heap.size w wr) (fun i _ => s.size - (intOf i).toNat)
  case atStart => exact ⟨0, Nat.zero_le _, rfl, rfl, Below.refl _ _⟩
  case round =>
    obtain ⟨k, hk, rfl, hx, hbel⟩ := hrel
    have HX : Hid _ := hx
    clear hx
    by_cases hlt : k < s.size
    · have hlt2 : k < t.size := by omega
      go_wp2_with fail
      go_quiet (fail)
      go_wp2
      · have hne : (s[k].toNat : Int) ≠ (t[k].toNat : Int) := by
          have h : ((s[k].toNat : Int) != (t[k].toNat : Int)) = true := by assumption
          simpa using h
        have hne' : s[k].toNat ≠ t[k].toNat := fun x => hne (by rw [x])
        have HS : Hid (lexB s.data.toList t.data.toList = decide (s[k].toNat < t[k].toNat)) := by
          show lexB s.data.toList t.data.toList = _
          rw [← HX.out, lexB_stop s t k hlt hlt2 hne']
        go_quiet (fail)
        go_wp2
        go_ret
        exact ⟨by rw [HS.out]; rfl, below_drewN (below_drewN hbel _) _⟩
      · have he : (s[k].toNat : Int) = (t[k].toNat : Int) := by
          have h : ((s[k].toNat : Int) != (t[k].toNat : Int)) = false := by assumption
          simpa using h
        have he' : s[k].toNat = t[k].toNat := by omega
        go_roundw
        case rel => exact ⟨k + 1, by omega, by go_num, by rw [← lexB_step s t k hlt hlt2 he', HX.out], below_drewN hbel _⟩
        case measure => simp [intOf]; omega
    · go_wp2
      go_ret
      exact ⟨by rw [← HX.out, lexB_end s t k hlt]; rfl, hbel⟩

/-- A column's reference in row 0: a text; what it is made of. -/
def IsRef (c : Nat) (s : ByteArray) : Prop := ∃ l : List UInt8, Letters l ∧ val l = c ∧ l.length ≤ 14 ∧ s = ⟨(colPart l ++ [48]).toArray⟩

theorem zero_digits : Lib.decDigits 0 = [48] := by rw [Lib.decDigits, dif_pos (by decide)]; rfl

theorem itoa0 (W : World) : Calls Tryd.prog 11 #[.int .i64 0] W fun e w' => e = .returned (.string ⟨[(48 : UInt8)].toArray⟩) ∧ Below W.heap.size W w' := by
  have h := Tryd.strconv_Itoa_small 0 (by decide) W
  rw [zero_digits] at h
  exact h.mono fun e w' ⟨he, hw⟩ => ⟨he, hw ▸ Below.refl _ _⟩

set_option maxHeartbeats 400000 in
theorem ref0_any (c : Int) (w : World) (hc : c ≤ 9223372036854775807) :
    Calls Tryd.prog 5 #[.int .i64 c, .int .i64 0] w fun e w' => ∃ s, IsRef c.toNat s ∧ e = .returned (.string s) ∧ Below w.heap.size w w' := by
  have H := cellRef_any c 0 [48] w hc (by decide) (fun W _ => itoa0 W)
  have HH : Hid (Calls Tryd.prog 10 #[.int .i64 c, .int .i64 0] w fun e w' => ∃ l : List UInt8, Letters l ∧ val l = c.toNat ∧ l.length ≤ 14 ∧ e = .returned (.string ⟨(colPart l ++ [48]).toArray⟩) ∧ Below w.heap.size w w') := H
  clear H
  go_enter Tryd.func5, Tryd.ntmps5
  go_wp2_with fail
  refine (Hid.out HH).mono ?_
  rintro e w1 ⟨l, h1, h2, h3, rfl, h5⟩
  go_wp2_with fail
  go_ret
  exact ⟨_, ⟨l, h1, h2, h3, rfl⟩, rfl, h5⟩

/-- What the walk is told of a reference: its last byte is the digit 0; what lies before it. -/
structure Told (s a : ByteArray) (n : Nat) : Prop where
  size : s.size = n + 1
  last : ∀ h : n < s.size, (s[n]'h).toNat = 48
  cut : s.extract 0 n = a
  asize : a.size = n

theorem told_of {l : List UInt8} : Told ⟨(colPart l ++ [48]).toArray⟩ ⟨(colPart l).toArray⟩ (colPart l).length := by
  refine ⟨by simp [ByteArray.size], fun h => ?_, ?_, by simp [ByteArray.size]⟩
  · show ((colPart l ++ [48]).toArray[(colPart l).length]'_).toNat = 48
    simp
  · apply ByteArray.ext
    simp [ByteArray.data_extract]

theorem colPart_pos (l : List UInt8) : 1 ≤ (colPart l).length := by
  cases l with
  | nil => simp [colPart]
  | cons d l => simp [colPart]

theorem colPart_le {l : List UInt8} (h : l.length ≤ 14) : (colPart l).length ≤ 14 := by
  cases l with
  | nil => simp [colPart]
  | cons d l => exact h

theorem told_pair {c d : Nat} {s t : ByteArray} (hs : IsRef c s) (ht : IsRef d t) :
    ∃ (a b : ByteArray) (n1 n2 : Nat), Told s a n1 ∧ Told t b n2 ∧ 1 ≤ n1 ∧ n1 ≤ 14 ∧ 1 ≤ n2 ∧ n2 ≤ 14 ∧ ((n1 < n2 ∨ (n1 = n2 ∧ lexB a.data.toList b.data.toList = true)) ↔ c < d) := by
  obtain ⟨l, hl, rfl, hll, rfl⟩ := hs
  obtain ⟨m, hm, rfl, hml, rfl⟩ := ht
  exact ⟨⟨(colPart l).toArray⟩, ⟨(colPart m).toArray⟩, (colPart l).length, (colPart m).length, told_of, told_of, colPart_pos l, colPart_le hll, colPart_pos m, colPart_le hml, col_order l m hl hm⟩

theorem ret_not {c d : Int} (h : d ≤ c) : Ending.returned (.bool (!decide (c < d))) = .returned (.bool true) := by simp [Int.not_lt.2 h]

set_option maxHeartbeats 400000 in
theorem order_in (c d : Int) (w : World) (hc0 : 0 ≤ c) (hd0 : 0 ≤ d) (hc : c ≤ 9223372036854775807) (hd : d ≤ 9223372036854775807) :
    Calls Tryd.prog 4 #[.int .i64 c, .int .i64 d] w fun e w' => e = .returned (.bool true) ∧ Below w.heap.size w w' := by
  go_enter Tryd.func4, Tryd.ntmps4
  go_wp2_with fail
  refine (ref0_any c w hc).mono ?_
  rintro e w1 ⟨s, hs, rfl, hb1⟩
  go_wp2_with fail
  refine (ref0_any d w1 hd).mono ?_
  rintro e w2 ⟨t, ht, rfl, hb2⟩
  have hb : Below w.heap.size w w2 := hb1.trans (hb2.mono hb1.size)
  obtain ⟨a, b, n1, n2, T1, T2, p1, q1, p2, q2, hord⟩ := told_pair hs ht
  clear hs ht hb1 hb2
  obtain ⟨s1, s2, s3, s4⟩ := T1
  obtain ⟨t1, t2, t3, t4⟩ := T2
  have HO : Hid _ := hord
  clear hord
  by_cases h1 : n1 < n2
  · have h2 : c < d := by have := HO.out.1 (.inl h1); omega
    clear HO
    go_wp2_with fail
    go_ret
    exact ⟨rfl, hb⟩
  · by_cases h2 : n1 = n2
    · subst h2
      have L := less_any a b w2 (by omega) (by omega)
      cases hx : lexB a.data.toList b.data.toList
      · have h3 : ¬ c < d := fun h => by
          rcases HO.out.2 (by omega) with h4 | ⟨_, h4⟩
          · omega
          · rw [hx] at h4; cases h4
        rw [hx] at L
        have HL : Hid (Calls Tryd.prog 9 #[.string a, .string b] w2 fun e w' => e = .returned (.bool false) ∧ Below w2.heap.size w2 w') := L
        clear HO L hx
        go_wp2_with fail
        refine (Hid.out HL).mono ?_
        rintro e w3 ⟨rfl, hb3⟩
        go_wp2_with fail
        go_ret
        exact ⟨ret_not h3, hb.trans (hb3.mono hb.size)⟩
      · have h3 : c < d := by have := HO.out.1 (.inr ⟨rfl, hx⟩); omega
        rw [hx] at L
        have HL : Hid (Calls Tryd.prog 9 #[.string a, .string b] w2 fun e w' => e = .returned (.bool true) ∧ Below w2.heap.size w2 w') := L
        clear HO L hx
        go_wp2_with fail
        refine (Hid.out HL).mono ?_
        rintro e w3 ⟨rfl, hb3⟩
        go_wp2_with fail
        go_ret
        exact ⟨rfl, hb.trans (hb3.mono hb.size)⟩
    · have h3 : ¬ c < d := fun h => by
        rcases HO.out.2 (by omega) with h4 | ⟨h4, _⟩
        · omega
        · omega
      clear HO
      go_wp2_with fail
      go_ret
      exact ⟨ret_not h3, hb⟩

set_option maxHeartbeats 400000 in
theorem order_out (c d : Int) (w : World) (h : c < 0 ∨ d < 0) :
    Calls Tryd.prog 4 #[.int .i64 c, .int .i64 d] w fun e w' => e = .returned (.bool true) ∧ Below w.heap.size w w' := by
  by_cases h1 : c < 0
  · go_enter Tryd.func4, Tryd.ntmps4
    go_wp2_with fail
    go_ret
    exact ⟨rfl, Below.refl _ _⟩
  · have h2 : d < 0 := by omega
    clear h
    go_enter Tryd.func4, Tryd.ntmps4
    go_wp2_with fail
    go_ret
    exact ⟨rfl, Below.refl _ _⟩
end Go.Proofs.Qxb6601360aDoor
