import Derived.Test.Qxb6601381aShort
import Derived.Deep.OwnRows
namespace Go.Proofs.Qxb6601381a
open Go.RowKit

theorem Try.info5b : (Try.prog.info? 5).map (fun i => (i.zero, i.size, i.bytes)) = some (some (.int .u8 0), 1, 1) := by kernel_rfl

theorem first_bad {Z : Nat → Int} {st : Nat} : ∀ n, ¬ Dig Z st n → ∃ p, p < n ∧ Dig Z st p ∧ (Z (st + p) < 48 ∨ 57 < Z (st + p))
  | 0, h => absurd (Dig.zero Z st) h
  | n + 1, h => by
    by_cases hd : Dig Z st n
    · refine ⟨n, by omega, hd, ?_⟩
      by_cases h1 : 48 ≤ Z (st + n)
      · by_cases h2 : Z (st + n) ≤ 57
        · exact absurd (hd.succ h1 h2) h
        · exact .inr (by omega)
      · exact .inl (by omega)
    · obtain ⟨p, hp, h1, h2⟩ := first_bad n hd
      exact ⟨p, by omega, h1, h2⟩

/-- One digit from the right. -/
theorem dv_right {Z : Nat → Int} {n k : Nat} {P u : Int} (h : dv Z 0 (k + 1) * P + u = dv Z 0 n) : dv Z 0 k * (P * 10) + (u + (Z k - 48) * P) = dv Z 0 n := by
  rw [← h, dv, Nat.zero_add, Int.add_mul, Int.mul_assoc, Int.mul_comm 10 P]
  omega

set_option maxHeartbeats 400000 in
theorem zzbytes_any (a : Option Addr) (n cap : Nat) (b : Int) (w : World) (hn : n ≤ 9223372036854775807) :
    Calls Try.prog 9 #[.slice a n cap, .int .i64 b] w fun e w' => e = .returned (.bool (decide (n ≤ 1048576))) ∧ w = w' := by
  by_cases h : n ≤ 1048576
  · rw [decide_eq_true h]
    go_enter Try.func9, Try.ntmps9
    go_wp2
    go_ret
    exact ⟨rfl, rfl⟩
  · rw [decide_eq_false h]
    go_enter Try.func9, Try.ntmps9
    go_wp2
    go_ret
    exact ⟨rfl, rfl⟩

set_option maxHeartbeats 400000 in
theorem clone_nil (w : World) : Calls Try.prog 10 #[.slice none 0 0] w fun e w' => e = .returned (.slice none 0 0) ∧ w = w' := by
  have hnil := fun wx => Lib.run_eql_slice_nil (P := Try.prog) wx 22 5 none 0 0 0 0 Try.underlying22
  go_enter Try.func10, Try.ntmps10
  go_wp2
  go_ret
  exact ⟨rfl, rfl⟩

/-- The copy, k bytes in. -/
def cp (Z : Nat → Int) (k j : Nat) : Value := if j < k then .int .u8 (Z j) else .int .u8 0

theorem cp_step {w : World} {B n k : Nat} {Z : Nat → Int} (h : w.rowIs B 5 n (cp Z k)) : (w.setCell ⟨B, k, none⟩ (.int .u8 (Z k))).rowIs B 5 n (cp Z (k + 1)) := by
  refine (h.set k _).congr fun j _ => ?_
  unfold cp
  by_cases e : j = k
  · subst e; simp
  · rw [if_neg e]
    by_cases hlt : j < k
    · rw [if_pos hlt, if_pos (by omega)]
    · rw [if_neg hlt, if_neg (by omega)]

set_option maxHeartbeats 400000 in
theorem clone_any (blk off n cap : Nat) (Z : Nat → Int) (w : World) (hn : n ≤ 1048576)
    (hc : ∀ j, j < n → w.cell? ⟨blk, off + j, none⟩ = some (.int .u8 (Z j))) (x : Addr) (hx : 0 < n → x = ⟨blk, off, none⟩) :
    Calls Try.prog 10 #[.slice (some x) n cap] w fun e w' => e = .returned (.slice (some ⟨w.heap.size, 0, none⟩) n n) ∧ Below w.heap.size w w' ∧ ∀ j, j < n → w'.cell? ⟨w.heap.size, j, none⟩ = some (.int .u8 (Z j)) := by
  have hnil := fun wx => Lib.run_eql_slice_nil (P := Try.prog) wx 22 5 (some x) n cap 0 0 Try.underlying22
  have hmk := run_make_row' (P := Try.prog) 22 5 (.int .u8 0) 1 Try.underlying22 Try.info5b rfl .i64 .i64 n (by omega) (by omega)
  have hb : 0 < n → blk < w.heap.size := fun h => World.block_lt_of_cell? _ _ (hc 0 h)
  go_enter Try.func10, Try.ntmps10
  go_wp2
  go_loopw [4] (fun t wr => ∃ k : Nat, k ≤ n ∧ t = .int .i64 k ∧ Below w.heap.size w wr ∧ wr.rowIs w.heap.size 5 n (cp Z k)) (fun t _ => n - (intOf t).toNat)
  case atStart => exact ⟨0, Nat.zero_le _, rfl, (Below.refl _ _).alloc (Nat.le_refl _) _, (World.rowIs_made w _ n 5).congr fun j _ => by simp [cp]⟩
  case round =>
    obtain ⟨k, hk, rfl, hbel, hrow⟩ := hrel
    clear hmk hnil
    by_cases hlt : k < n
    · obtain rfl := hx (by omega)
      have g0 : wr.cell? ⟨blk, off + k, none⟩ = some (.int .u8 (Z k)) := (hbel.cell (p := ⟨blk, off + k, none⟩) (hb (by omega))).trans (hc k hlt)
      have g1 := hrow.cell hlt
      have g2 := hrow.frozen k
      have hrow' := cp_step hrow
      have R : Hid (_ ∧ _) := ⟨hbel.setCell (p := ⟨w.heap.size, k, none⟩) (Nat.le_refl _) (.int .u8 (Z k)), hrow'⟩
      clear hc hrow hbel hrow'
      go_wp2
      go_roundw
      case rel => exact ⟨k + 1, by omega, by go_num, R.out.1, R.out.2⟩
      case measure => simp [intOf]; omega
    · obtain rfl : k = n := by omega
      go_wp2
      go_ret
      exact ⟨rfl, hbel, fun j hj => by rw [hrow.cell hj, cp, if_pos hj]⟩

set_option maxHeartbeats 400000 in
theorem isDigit_yes (x : Int) (w : World) (h1 : 48 ≤ x) (h2 : x ≤ 57) : Calls Try.prog 21 #[.int .u8 x] w fun e w' => e = .returned (.bool true) ∧ w = w' := by
  go_enter Try.func21, Try.ntmps21
  go_wp2
  go_ret
  exact ⟨rfl, rfl⟩

set_option maxHeartbeats 400000 in
theorem isDigit_no (x : Int) (w : World) (h : x < 48 ∨ 57 < x) : Calls Try.prog 21 #[.int .u8 x] w fun e w' => e = .returned (.bool false) ∧ w = w' := by
  rcases h with h | h
  · have h' : ¬ 48 ≤ x := by omega
    go_enter Try.func21, Try.ntmps21
    go_wp2
    go_ret
    exact ⟨rfl, rfl⟩
  · have h' : 48 ≤ x := by omega
    have h'' : ¬ x ≤ 57 := by omega
    go_enter Try.func21, Try.ntmps21
    go_wp2
    go_ret
    exact ⟨rfl, rfl⟩

theorem mul_bound {x P B : Int} (h0 : 0 ≤ x) (h9 : x ≤ 9) (hP : 0 ≤ P) (hB : P ≤ B) : 0 ≤ x * P ∧ x * P ≤ 9 * B := by
  refine ⟨Int.mul_nonneg h0 hP, ?_⟩
  calc x * P ≤ 9 * P := Int.mul_le_mul_of_nonneg_right h9 hP
    _ ≤ 9 * B := Int.mul_le_mul_of_nonneg_left hB (by omega)

set_option maxHeartbeats 400000 in
theorem decval_any (blk off n cap : Nat) (Y : Nat → Int) (w : World) (hn2 : n ≤ 18) (hdig : Dig Y 0 n)
    (hc : ∀ j, j < n → w.cell? ⟨blk, off + j, none⟩ = some (.int .u8 (Y j))) :
    Calls Try.prog 31 #[.slice (some ⟨blk, off, none⟩) n cap] w fun e w' => e = .returned (.int .u64 (dv Y 0 n)) ∧ w = w' := by
  have HD : Hid _ := hdig
  clear hdig
  go_enter Try.func31, Try.ntmps31
  go_wp2
  go_loop [3, 4, 5] (fun t p i => ∃ (k : Nat) (P u : Int), k ≤ n ∧ i = .int .i64 ((k : Int) - 1) ∧ p = .int .u64 P ∧ t = .int .u64 u ∧ P = 10 ^ (n - k) ∧ 0 ≤ u ∧ u < P ∧ dv Y 0 k * P + u = dv Y 0 n) (fun _ _ i => (intOf i + 1).toNat)
  case atStart => exact ⟨n, 1, 0, Nat.le_refl _, rfl, rfl, rfl, by simp, by omega, by omega, by omega⟩
  case round =>
    obtain ⟨k, P, u, hk, rfl, rfl, rfl, hP, hu0, huP, he⟩ := hrel
    by_cases hpos : 0 < k
    · obtain ⟨q, rfl⟩ : ∃ q, k = q + 1 := ⟨k - 1, by omega⟩
      have hp17 := pow_le17 (k := n - (q + 1)) (by omega)
      rw [← hP] at hp17
      have hd := HD.out q (by omega)
      rw [Nat.zero_add] at hd
      have hck := hc q (by omega)
      have hmb := mul_bound (x := Y q - 48) (P := P) (B := 100000000000000000) (by omega) (by omega) (by omega) hp17
      have hP10 : P * 10 = 10 ^ (n - q) := by
        rw [hP, ← Int.pow_succ, show (n - (q + 1)).succ = n - q from by omega]
      have hub : u + (Y q - 48) * P < P * 10 := by
        have := Int.mul_le_mul_of_nonneg_right (show Y q - 48 ≤ 9 by omega) (show 0 ≤ P by omega)
        omega
      have HE : Hid (_ ∧ _ ∧ _) := ⟨hP10, hub, dv_right he⟩
      clear he hP hP10 hub hc
      go_wp2
      go_round
      case rel => exact ⟨q, P * 10, u + (Y q - 48) * P, by omega, by go_num, rfl, rfl, HE.out.1, by omega, HE.out.2.1, HE.out.2.2⟩
      case measure => simp [intOf]
    · obtain rfl : k = 0 := by omega
      have hv : dv Y 0 n = u := by rw [← he]; simp [dv]
      have HV : Hid _ := hv
      clear hv he hP hc
      go_wp2
      go_ret
      exact ⟨by rw [HV.out]; rfl, rfl⟩

theorem dv_shift (Z : Nat → Int) : ∀ k, dv (fun j => Z (1 + j)) 0 k = dv Z 1 k
  | 0 => rfl
  | k + 1 => by rw [dv, dv, dv_shift Z k, Nat.zero_add]

/-- What b1DecimalValue answers, under a name. -/
theorem dec_named (blk off n cap st : Nat) (Z : Nat → Int) (w : World) (hn2 : n ≤ 18) (hdig : Dig Z st n) (hst : st = 0 ∨ st = 1)
    (hc : ∀ j, j < n → w.cell? ⟨blk, off + j, none⟩ = some (.int .u8 (Z (st + j)))) :
    ∃ m : Int, m = dv Z st n ∧ 0 ≤ m ∧ m ≤ 1000000000000000000 ∧ Hid (Calls Try.prog 31 #[.slice (some ⟨blk, off, none⟩) n cap] w fun e w' => e = .returned (.int .u64 m) ∧ w = w') := by
  have hb := dv_bound n hdig
  have hp := pow_le18 hn2
  refine ⟨_, rfl, hb.1, by omega, ?_⟩
  rcases hst with rfl | rfl
  · exact decval_any blk off n cap Z w hn2 hdig (fun j hj => by have := hc j hj; rwa [Nat.zero_add] at this)
  · have := decval_any blk off n cap (fun j => Z (1 + j)) w hn2 (fun j hj => by have := hdig j hj; rwa [Nat.zero_add]) hc
    rw [dv_shift] at this
    exact this

set_option maxHeartbeats 400000 in
theorem model_pos (blk off n cap : Nat) (Z : Nat → Int) (b : Int) (w : World) (hn : 1 ≤ n) (hn2 : n ≤ 18) (h1 : 1 ≤ b) (h2 : b ≤ 9223372036854775807) (hcap : n ≤ cap)
    (hc : ∀ j, j < n → w.cell? ⟨blk, off + j, none⟩ = some (.int .u8 (Z j))) (hm : Z 0 ≠ 45) (hdig : Dig Z 0 n) :
    Calls Try.prog 12 #[.slice (some ⟨blk, off, none⟩) n cap, .int .i64 b] w fun e w' => e = .returned (.tuple #[.int .i64 (ans false (dv Z 0 n) b).1, .bool (ans false (dv Z 0 n) b).2]) ∧ w = w' := by
  have hc0 : w.cell? ⟨blk, off, none⟩ = some (.int .u8 (Z 0)) := by simpa using hc 0 (by omega)
  have hm0 : (Z 0 == 45) = false := by simpa using hm
  have HD : Hid _ := hdig
  clear hdig hm
  go_enter Try.func12, Try.ntmps12
  go_wp2_with fail
  go_loop [9] (fun i => ∃ k : Nat, k ≤ n ∧ i = .int .i64 (k)) (fun i => (n) - (intOf i).toNat)
  case atStart => exact ⟨0, Nat.zero_le _, rfl⟩
  case round =>
    obtain ⟨k, hk, rfl⟩ := hrel
    by_cases hlt : k < n
    · have hck := hc k hlt
      have hd := HD.out k hlt
      rw [Nat.zero_add] at hd
      clear hc hc0
      go_wp2_with (go_at_call 21; refine (isDigit_yes _ _ (by omega) (by omega)).mono ?_; rintro e w' ⟨rfl, rfl⟩)
      go_round
      case rel => exact ⟨k + 1, by omega, by go_num⟩
      case measure => simp [intOf]; omega
    · obtain rfl : k = n := by omega
      obtain ⟨m, hme, hm1, hm2, H31⟩ := dec_named blk off k cap 0 Z w hn2 HD.out (by omega) (fun j hj => by rw [Nat.zero_add]; exact hc j hj)
      have H32 := mag_any false m b w h1 h2
      clear hc hc0
      cases hfit : fitsB false m b
      · have HA : Hid (ans false (dv Z 0 k) b = (0, false)) := by
          show ans false (dv Z 0 k) b = (0, false)
          rw [← hme, ans, hfit]; rfl
        rw [hfit] at H32
        have H3 : Hid (Calls Try.prog 32 #[.bool false, .int .u64 m, .int .i64 b] w fun e w' => e = .returned (.bool false) ∧ w = w') := H32
        clear hme hfit H32
        go_wp2_with (first | (go_at_call 31; refine (Hid.out H31).mono ?_; rintro e w' ⟨rfl, rfl⟩) | (go_at_call 32; refine (Hid.out H3).mono ?_; rintro e w' ⟨rfl, rfl⟩))
        go_ret2
        exact ⟨by rw [HA.out]; rfl, rfl⟩
      · have HA : Hid (ans false (dv Z 0 k) b = (m, true)) := by
          show ans false (dv Z 0 k) b = (m, true)
          rw [← hme, ans, hfit]; rfl
        rw [hfit] at H32
        have H3 : Hid (Calls Try.prog 32 #[.bool false, .int .u64 m, .int .i64 b] w fun e w' => e = .returned (.bool true) ∧ w = w') := H32
        clear hme hfit H32
        go_wp2_with (first | (go_at_call 31; refine (Hid.out H31).mono ?_; rintro e w' ⟨rfl, rfl⟩) | (go_at_call 32; refine (Hid.out H3).mono ?_; rintro e w' ⟨rfl, rfl⟩))
        go_ret2
        exact ⟨by rw [HA.out]; rfl, rfl⟩

set_option maxHeartbeats 400000 in
theorem model_neg (blk off n cap : Nat) (Z : Nat → Int) (b : Int) (w : World) (hn : 1 ≤ n) (hn2 : n ≤ 18) (h1 : 1 ≤ b) (h2 : b ≤ 9223372036854775807) (hcap : (n + 1) ≤ cap)
    (hc : ∀ j, j < (n + 1) → w.cell? ⟨blk, off + j, none⟩ = some (.int .u8 (Z j))) (hm : Z 0 = 45) (hdig : Dig Z 1 n) :
    Calls Try.prog 12 #[.slice (some ⟨blk, off, none⟩) (n + 1) cap, .int .i64 b] w fun e w' => e = .returned (.tuple #[.int .i64 (ans true (dv Z 1 n) b).1, .bool (ans true (dv Z 1 n) b).2]) ∧ w = w' := by
  have hc0 : w.cell? ⟨blk, off, none⟩ = some (.int .u8 45) := by simpa [hm] using hc 0 (by omega)
  have HD : Hid _ := hdig
  clear hdig hm
  go_enter Try.func12, Try.ntmps12
  go_wp2_with fail
  go_loop [9] (fun i => ∃ k : Nat, k ≤ n ∧ i = .int .i64 (1 + (k : Int))) (fun i => (n + 1) - (intOf i).toNat)
  case atStart => exact ⟨0, Nat.zero_le _, rfl⟩
  case round =>
    obtain ⟨k, hk, rfl⟩ := hrel
    by_cases hlt : k < n
    · have hck : w.cell? ⟨blk, off + (1 + k), none⟩ = some (.int .u8 (Z (1 + k))) := hc (1 + k) (by omega)
      have hd := HD.out k hlt
      clear hc hc0
      go_wp2_with (go_at_call 21; refine (isDigit_yes _ _ (by omega) (by omega)).mono ?_; rintro e w' ⟨rfl, rfl⟩)
      go_round
      case rel => exact ⟨k + 1, by omega, by go_num⟩
      case measure => simp [intOf]; omega
    · obtain rfl : k = n := by omega
      obtain ⟨m, hme, hm1, hm2, H31⟩ := dec_named blk (off + 1) k (cap - 1) 1 Z w hn2 HD.out (by omega) (fun j hj => by rw [Nat.add_assoc]; exact hc (1 + j) (by omega))
      have H32 := mag_any true m b w h1 h2
      clear hc hc0
      cases hfit : fitsB true m b
      · have HA : Hid (ans true (dv Z 1 k) b = (0, false)) := by
          show ans true (dv Z 1 k) b = (0, false)
          rw [← hme, ans, hfit]; rfl
        rw [hfit] at H32
        have H3 : Hid (Calls Try.prog 32 #[.bool true, .int .u64 m, .int .i64 b] w fun e w' => e = .returned (.bool false) ∧ w = w') := H32
        clear hme hfit H32
        go_wp2_with (first | (go_at_call 31; refine (Hid.out H31).mono ?_; rintro e w' ⟨rfl, rfl⟩) | (go_at_call 32; refine (Hid.out H3).mono ?_; rintro e w' ⟨rfl, rfl⟩))
        go_ret2
        exact ⟨by rw [HA.out]; rfl, rfl⟩
      · have HA : Hid (ans true (dv Z 1 k) b = (-m, true)) := by
          show ans true (dv Z 1 k) b = (-m, true)
          rw [← hme, ans, hfit]; rfl
        rw [hfit] at H32
        have H3 : Hid (Calls Try.prog 32 #[.bool true, .int .u64 m, .int .i64 b] w fun e w' => e = .returned (.bool true) ∧ w = w') := H32
        clear hme hfit H32
        go_wp2_with (first | (go_at_call 31; refine (Hid.out H31).mono ?_; rintro e w' ⟨rfl, rfl⟩) | (go_at_call 32; refine (Hid.out H3).mono ?_; rintro e w' ⟨rfl, rfl⟩))
        go_ret2
        exact ⟨by rw [HA.out]; rfl, rfl⟩

set_option maxHeartbeats 400000 in
theorem model_pos_bad (blk off n cap p : Nat) (Z : Nat → Int) (b : Int) (w : World) (hn : 1 ≤ n) (hn2 : n ≤ 18)
    (hc : ∀ j, j < n → w.cell? ⟨blk, off + j, none⟩ = some (.int .u8 (Z j))) (hm : Z 0 ≠ 45) (hp : p < n) (hdig : Dig Z 0 p) (hbad : Z p < 48 ∨ 57 < Z p) :
    Calls Try.prog 12 #[.slice (some ⟨blk, off, none⟩) n cap, .int .i64 b] w fun e w' => e = .returned (.tuple #[.int .i64 0, .bool false]) ∧ w = w' := by
  have hc0 : w.cell? ⟨blk, off, none⟩ = some (.int .u8 (Z 0)) := by simpa using hc 0 (by omega)
  have hm0 : (Z 0 == 45) = false := by simpa using hm
  have HD : Hid _ := hdig
  have HB : Hid _ := hbad
  clear hdig hm hbad
  go_enter Try.func12, Try.ntmps12
  go_wp2_with fail
  go_loop [9] (fun i => ∃ k : Nat, k ≤ p ∧ i = .int .i64 (k)) (fun i => (n) - (intOf i).toNat)
  case atStart => exact ⟨0, Nat.zero_le _, rfl⟩
  case round =>
    obtain ⟨k, hk, rfl⟩ := hrel
    have hck := hc k (by omega)
    by_cases hlt : k < p
    · have hd := HD.out k hlt
      rw [Nat.zero_add] at hd
      clear hc hc0
      go_wp2_with (go_at_call 21; refine (isDigit_yes _ _ (by omega) (by omega)).mono ?_; rintro e w' ⟨rfl, rfl⟩)
      go_round
      case rel => exact ⟨k + 1, by omega, by go_num⟩
      case measure => simp [intOf]; omega
    · obtain rfl : k = p := by omega
      clear hc hc0
      go_wp2_with (go_at_call 21; refine (isDigit_no _ _ HB.out).mono ?_; rintro e w' ⟨rfl, rfl⟩)
      go_ret2
      exact ⟨rfl, rfl⟩

set_option maxHeartbeats 400000 in
theorem model_neg_bad (blk off n cap p : Nat) (Z : Nat → Int) (b : Int) (w : World) (hn : 1 ≤ n) (hn2 : n ≤ 18)
    (hc : ∀ j, j < (n + 1) → w.cell? ⟨blk, off + j, none⟩ = some (.int .u8 (Z j))) (hm : Z 0 = 45) (hp : p < n) (hdig : Dig Z 1 p) (hbad : Z (1 + p) < 48 ∨ 57 < Z (1 + p)) :
    Calls Try.prog 12 #[.slice (some ⟨blk, off, none⟩) (n + 1) cap, .int .i64 b] w fun e w' => e = .returned (.tuple #[.int .i64 0, .bool false]) ∧ w = w' := by
  have hc0 : w.cell? ⟨blk, off, none⟩ = some (.int .u8 45) := by simpa [hm] using hc 0 (by omega)
  have HD : Hid _ := hdig
  have HB : Hid _ := hbad
  clear hdig hm hbad
  go_enter Try.func12, Try.ntmps12
  go_wp2_with fail
  go_loop [9] (fun i => ∃ k : Nat, k ≤ p ∧ i = .int .i64 (1 + (k : Int))) (fun i => (n + 1) - (intOf i).toNat)
  case atStart => exact ⟨0, Nat.zero_le _, rfl⟩
  case round =>
    obtain ⟨k, hk, rfl⟩ := hrel
    have hck : w.cell? ⟨blk, off + (1 + k), none⟩ = some (.int .u8 (Z (1 + k))) := hc (1 + k) (by omega)
    by_cases hlt : k < p
    · have hd := HD.out k hlt
      clear hc hc0
      go_wp2_with (go_at_call 21; refine (isDigit_yes _ _ (by omega) (by omega)).mono ?_; rintro e w' ⟨rfl, rfl⟩)
      go_round
      case rel => exact ⟨k + 1, by omega, by go_num⟩
      case measure => simp [intOf]; omega
    · obtain rfl : k = p := by omega
      clear hc hc0
      go_wp2_with (go_at_call 21; refine (isDigit_no _ _ HB.out).mono ?_; rintro e w' ⟨rfl, rfl⟩)
      go_ret2
      exact ⟨rfl, rfl⟩

set_option maxHeartbeats 400000 in
/-- Too many bytes, or none, no '-' ahead. -/
theorem model_pos_len (a : Option Addr) (blk off n cap : Nat) (x b : Int) (w : World) (hl : n ≤ 9223372036854775807) (hn : n = 0 ∨ 18 < n)
    (ha : 0 < n → a = some ⟨blk, off, none⟩) (hc : 0 < n → w.cell? ⟨blk, off, none⟩ = some (.int .u8 x)) (hm : x ≠ 45) :
    Calls Try.prog 12 #[.slice a n cap, .int .i64 b] w fun e w' => e = .returned (.tuple #[.int .i64 0, .bool false]) ∧ w = w' := by
  have hm0 : (x == 45) = false := by simpa using hm
  clear hm
  rcases hn with rfl | hn
  · clear ha hc
    go_enter Try.func12, Try.ntmps12
    go_wp2
    all_goals (go_ret2; exact ⟨rfl, rfl⟩)
  · obtain rfl := ha (by omega)
    have hc0 := hc (by omega)
    clear ha hc
    go_enter Try.func12, Try.ntmps12
    go_wp2
    all_goals (go_ret2; exact ⟨rfl, rfl⟩)

set_option maxHeartbeats 400000 in
/-- Too many bytes, or none, behind a '-'. -/
theorem model_neg_len (blk off n cap : Nat) (b : Int) (w : World) (hl : n + 1 ≤ 9223372036854775807) (hn : n = 0 ∨ 18 < n)
    (hc : w.cell? ⟨blk, off, none⟩ = some (.int .u8 45)) :
    Calls Try.prog 12 #[.slice (some ⟨blk, off, none⟩) (n + 1) cap, .int .i64 b] w fun e w' => e = .returned (.tuple #[.int .i64 0, .bool false]) ∧ w = w' := by
  rcases hn with rfl | hn
  · go_enter Try.func12, Try.ntmps12
    go_wp2
    all_goals (go_ret2; exact ⟨rfl, rfl⟩)
  · go_enter Try.func12, Try.ntmps12
    go_wp2
    all_goals (go_ret2; exact ⟨rfl, rfl⟩)
end Go.Proofs.Qxb6601381a
