import Derived.Test.Qxb6601381aRows
import Derived.Test.Qxb6601381aPlain
import Derived.WalkKit
import Derived.WalkSpells
import Derived.WalkLawsBesides
namespace Go.Proofs.Qxb6601381a
open Go.RowKit

theorem wrap_pw {b : Int} (h : b < 64) : IntKind.u64.wrap (2 ^ (b.toNat - 1)) = pw b := by
  have := pw_bound h
  rw [IntKind.wrap_u64]
  unfold pw at *
  omega

theorem wrap_pwi {b : Int} (h : b < 64) : IntKind.i64.wrap (2 ^ (b.toNat - 1)) = pw b := by
  have := pw_bound h
  rw [IntKind.wrap_i64]
  unfold pw at *
  omega

set_option maxHeartbeats 400000 in
theorem mag_any (neg : Bool) (m b : Int) (w : World) (h1 : 1 ≤ b) (h2 : b ≤ 9223372036854775807) :
    Calls Try.prog 32 #[.bool neg, .int .u64 m, .int .i64 b] w fun e w' => e = .returned (.bool (fitsB neg m b)) ∧ w = w' := by
  by_cases h64 : b < 64
  · have hw := wrap_pw h64
    cases neg
    · go_enter Try.func32, Try.ntmps32
      go_wp2
      go_ret
      exact ⟨by simp [fitsB, h64], rfl⟩
    · go_enter Try.func32, Try.ntmps32
      go_wp2
      go_ret
      exact ⟨by simp [fitsB, h64], rfl⟩
  · have e : fitsB neg m b = true := by simp [fitsB, h64]
    rw [e]
    clear e
    go_enter Try.func32, Try.ntmps32
    go_wp2
    go_ret
    exact ⟨rfl, rfl⟩

/-- What shortInteger answers at a text of n bytes, the digits from place st on. -/
def shortF (neg : Bool) (Z : Nat → Int) (st k : Nat) (b : Int) : Int × Bool := ans neg (dv Z st k) b

set_option maxHeartbeats 400000 in
/-- No '-' ahead, 1 to 18 bytes. -/
theorem short_pos (blk off n cap : Nat) (Z : Nat → Int) (b : Int) (w : World) (hn : 1 ≤ n) (hn2 : n ≤ 18) (h1 : 1 ≤ b) (h2 : b ≤ 9223372036854775807)
    (hc : ∀ j, j < n → w.cell? ⟨blk, off + j, none⟩ = some (.int .u8 (Z j))) (hZ : ∀ j, j < n → 0 ≤ Z j ∧ Z j ≤ 255) (hm : Z 0 ≠ 45) (hdig : Dig Z 0 n) :
    Calls Try.prog 30 #[.slice (some ⟨blk, off, none⟩) n cap, .int .i64 b] w fun e w' => e = .returned (.tuple #[.int .i64 (ans false (dv Z 0 n) b).1, .bool (ans false (dv Z 0 n) b).2]) ∧ w = w' := by
  have hc0 : w.cell? ⟨blk, off, none⟩ = some (.int .u8 (Z 0)) := by simpa using hc 0 (by omega)
  have hz0 := hZ 0 (by omega)
  have hm0 : (Z 0 == 45) = false := by simpa using hm
  have hnz : ((n : Int) == 0) = false := beq_eq_false_iff_ne.2 (by omega)
  have HD : Hid _ := hdig
  clear hdig hm
  go_enter Try.func30, Try.ntmps30
  go_wp2_with fail
  go_loop [4, 34] (fun t i => ∃ (k : Nat) (u : Int), k ≤ n ∧ i = .int .i64 k ∧ t = .int .i64 u ∧ u = dv Z 0 k) (fun _ i => n - (intOf i).toNat)
  case atStart => exact ⟨0, 0, Nat.zero_le _, rfl, rfl, rfl⟩
  case round =>
    obtain ⟨k, u, hk, rfl, rfl, hu⟩ := hrel
    have hub := dv_bound k (fun j hj => HD.out j (by omega))
    rw [← hu] at hub
    by_cases hlt : k < n
    · have hck := hc k hlt
      have hd := HD.out k hlt
      rw [Nat.zero_add] at hd
      have hp := pow_le17 (k := k) (by omega)
      have hu2 : u ≤ 100000000000000000 := by omega
      have hu1 : 0 ≤ u := hub.1
      have HN : Hid (dv Z 0 (k + 1) = u * 10 + (Z k - 48)) := by
        show dv Z 0 (k + 1) = u * 10 + (Z k - 48)
        rw [dv, ← hu, Nat.zero_add]
      clear hub hp hu hc hc0 hZ
      go_wp2
      go_round
      case rel => exact ⟨k + 1, u * 10 + (Z k - 48), by omega, by go_num, rfl, HN.out.symm⟩
      case measure => simp [intOf]; omega
    · obtain rfl : k = n := by omega
      have hp := pow_le18 (k := k) (by omega)
      have hu2 : u ≤ 1000000000000000000 := by omega
      have hu1 : 0 ≤ u := hub.1
      clear hub hp hc hc0 hZ
      by_cases h64 : b < 64
      · have hw := wrap_pwi h64
        have hpb := pw_bound h64
        by_cases hlim : u < pw b
        · have HA : Hid (ans false (dv Z 0 k) b = (u, true)) := by
            show ans false (dv Z 0 k) b = (u, true)
            rw [← hu]; simp [ans, fitsB, h64, hlim]
          clear hu
          go_wp2
          go_ret2
          exact ⟨by rw [HA.out]; rfl, rfl⟩
        · have HA : Hid (ans false (dv Z 0 k) b = (0, false)) := by
            show ans false (dv Z 0 k) b = (0, false)
            rw [← hu]; simp [ans, fitsB, h64, hlim]
          clear hu
          go_wp2
          go_ret2
          exact ⟨by rw [HA.out]; rfl, rfl⟩
      · have HA : Hid (ans false (dv Z 0 k) b = (u, true)) := by
          show ans false (dv Z 0 k) b = (u, true)
          rw [← hu]; simp [ans, fitsB, h64]
        clear hu
        go_wp2
        go_ret2
        exact ⟨by rw [HA.out]; rfl, rfl⟩

set_option maxHeartbeats 400000 in
/-- A '-' ahead, 1 to 18 bytes behind it. -/
theorem short_neg (blk off n cap : Nat) (Z : Nat → Int) (b : Int) (w : World) (hn : 1 ≤ n) (hn2 : n ≤ 18) (h1 : 1 ≤ b) (h2 : b ≤ 9223372036854775807) (hcap : n + 1 ≤ cap)
    (hc : ∀ j, j < n + 1 → w.cell? ⟨blk, off + j, none⟩ = some (.int .u8 (Z j))) (hm : Z 0 = 45) (hdig : Dig Z 1 n) :
    Calls Try.prog 30 #[.slice (some ⟨blk, off, none⟩) (n + 1) cap, .int .i64 b] w fun e w' => e = .returned (.tuple #[.int .i64 (ans true (dv Z 1 n) b).1, .bool (ans true (dv Z 1 n) b).2]) ∧ w = w' := by
  have hc0 : w.cell? ⟨blk, off, none⟩ = some (.int .u8 45) := by simpa [hm] using hc 0 (by omega)
  have hnz : ((n : Int) == 0) = false := beq_eq_false_iff_ne.2 (by omega)
  have HD : Hid _ := hdig
  clear hdig hm
  go_enter Try.func30, Try.ntmps30
  go_wp2_with fail
  go_loop [4, 34] (fun t i => ∃ (k : Nat) (u : Int), k ≤ n ∧ i = .int .i64 k ∧ t = .int .i64 u ∧ u = dv Z 1 k) (fun _ i => n - (intOf i).toNat)
  case atStart => exact ⟨0, 0, Nat.zero_le _, rfl, rfl, rfl⟩
  case round =>
    obtain ⟨k, u, hk, rfl, rfl, hu⟩ := hrel
    have hub := dv_bound k (fun j hj => HD.out j (by omega))
    rw [← hu] at hub
    by_cases hlt : k < n
    · have hck : w.cell? ⟨blk, off + 1 + k, none⟩ = some (.int .u8 (Z (1 + k))) := by
        rw [Nat.add_assoc]; exact hc (1 + k) (by omega)
      have hd := HD.out k hlt
      have hp := pow_le17 (k := k) (by omega)
      have hu2 : u ≤ 100000000000000000 := by omega
      have hu1 : 0 ≤ u := hub.1
      have HN : Hid (dv Z 1 (k + 1) = u * 10 + (Z (1 + k) - 48)) := by
        show dv Z 1 (k + 1) = u * 10 + (Z (1 + k) - 48)
        rw [dv, ← hu]
      clear hub hp hu hc hc0
      go_wp2
      go_round
      case rel => exact ⟨k + 1, u * 10 + (Z (1 + k) - 48), by omega, by go_num, rfl, HN.out.symm⟩
      case measure => simp [intOf]; omega
    · obtain rfl : k = n := by omega
      have hp := pow_le18 (k := k) (by omega)
      have hu2 : u ≤ 1000000000000000000 := by omega
      have hu1 : 0 ≤ u := hub.1
      clear hub hp hc hc0
      by_cases h64 : b < 64
      · have hw := wrap_pwi h64
        have hpb := pw_bound h64
        by_cases hlim : u ≤ pw b
        · have HA : Hid (ans true (dv Z 1 k) b = (-u, true)) := by
            show ans true (dv Z 1 k) b = (-u, true)
            rw [← hu]; simp [ans, fitsB, h64, hlim]
          clear hu
          go_wp2
          go_ret2
          exact ⟨by rw [HA.out]; rfl, rfl⟩
        · have HA : Hid (ans true (dv Z 1 k) b = (0, false)) := by
            show ans true (dv Z 1 k) b = (0, false)
            rw [← hu]; simp [ans, fitsB, h64, hlim]
          clear hu
          go_wp2
          go_ret2
          exact ⟨by rw [HA.out]; rfl, rfl⟩
      · have HA : Hid (ans true (dv Z 1 k) b = (-u, true)) := by
          show ans true (dv Z 1 k) b = (-u, true)
          rw [← hu]; simp [ans, fitsB, h64]
        clear hu
        go_wp2
        go_ret2
        exact ⟨by rw [HA.out]; rfl, rfl⟩

set_option maxHeartbeats 400000 in
/-- No '-' ahead, a byte that is no digit. -/
theorem short_pos_bad (blk off n cap p : Nat) (Z : Nat → Int) (b : Int) (w : World) (hn : 1 ≤ n) (hn2 : n ≤ 18)
    (hc : ∀ j, j < n → w.cell? ⟨blk, off + j, none⟩ = some (.int .u8 (Z j))) (hZ : ∀ j, j < n → 0 ≤ Z j ∧ Z j ≤ 255) (hm : Z 0 ≠ 45) (hp : p < n) (hdig : Dig Z 0 p) (hbad : Z p < 48 ∨ 57 < Z p) :
    Calls Try.prog 30 #[.slice (some ⟨blk, off, none⟩) n cap, .int .i64 b] w fun e w' => e = .returned (.tuple #[.int .i64 0, .bool false]) ∧ w = w' := by
  have hc0 : w.cell? ⟨blk, off, none⟩ = some (.int .u8 (Z 0)) := by simpa using hc 0 (by omega)
  have hz0 := hZ 0 (by omega)
  have hm0 : (Z 0 == 45) = false := by simpa using hm
  have hnz : ((n : Int) == 0) = false := beq_eq_false_iff_ne.2 (by omega)
  have HD : Hid _ := hdig
  clear hdig hm
  go_enter Try.func30, Try.ntmps30
  go_wp2_with fail
  go_loop [4, 34] (fun t i => ∃ (k : Nat) (u : Int), k ≤ p ∧ i = .int .i64 k ∧ t = .int .i64 u ∧ u = dv Z 0 k) (fun _ i => n - (intOf i).toNat)
  case atStart => exact ⟨0, 0, Nat.zero_le _, rfl, rfl, rfl⟩
  case round =>
    obtain ⟨k, u, hk, rfl, rfl, hu⟩ := hrel
    have hub := dv_bound k (fun j hj => HD.out j (by omega))
    rw [← hu] at hub
    have hlt0 : k < n := by omega
    have hck := hc k hlt0
    have hzk := hZ k hlt0
    by_cases hlt : k < p
    · have hd := HD.out k hlt
      rw [Nat.zero_add] at hd
      have hpp := pow_le17 (k := k) (by omega)
      have hu2 : u ≤ 100000000000000000 := by omega
      have hu1 : 0 ≤ u := hub.1
      have HN : Hid (dv Z 0 (k + 1) = u * 10 + (Z k - 48)) := by
        show dv Z 0 (k + 1) = u * 10 + (Z k - 48)
        rw [dv, ← hu, Nat.zero_add]
      clear hub hpp hu hc hc0 hZ hbad
      go_wp2
      go_round
      case rel => exact ⟨k + 1, u * 10 + (Z k - 48), by omega, by go_num, rfl, HN.out.symm⟩
      case measure => simp [intOf]; omega
    · obtain rfl : k = p := by omega
      clear hub hu hc hc0 hZ
      rcases hbad with hb | hb
      · go_wp2
        go_ret2
        exact ⟨rfl, rfl⟩
      · have hb2 : ¬ Z k < 48 := by omega
        go_wp2
        go_ret2
        exact ⟨rfl, rfl⟩

set_option maxHeartbeats 400000 in
/-- A '-' ahead, a byte behind it that is no digit. -/
theorem short_neg_bad (blk off n cap p : Nat) (Z : Nat → Int) (b : Int) (w : World) (hn : 1 ≤ n) (hn2 : n ≤ 18) (hcap : n + 1 ≤ cap)
    (hc : ∀ j, j < n + 1 → w.cell? ⟨blk, off + j, none⟩ = some (.int .u8 (Z j))) (hZ : ∀ j, j < n + 1 → 0 ≤ Z j ∧ Z j ≤ 255) (hm : Z 0 = 45) (hp : p < n) (hdig : Dig Z 1 p) (hbad : Z (1 + p) < 48 ∨ 57 < Z (1 + p)) :
    Calls Try.prog 30 #[.slice (some ⟨blk, off, none⟩) (n + 1) cap, .int .i64 b] w fun e w' => e = .returned (.tuple #[.int .i64 0, .bool false]) ∧ w = w' := by
  have hc0 : w.cell? ⟨blk, off, none⟩ = some (.int .u8 45) := by simpa [hm] using hc 0 (by omega)
  have hnz : ((n : Int) == 0) = false := beq_eq_false_iff_ne.2 (by omega)
  have HD : Hid _ := hdig
  clear hdig hm
  go_enter Try.func30, Try.ntmps30
  go_wp2_with fail
  go_loop [4, 34] (fun t i => ∃ (k : Nat) (u : Int), k ≤ p ∧ i = .int .i64 k ∧ t = .int .i64 u ∧ u = dv Z 1 k) (fun _ i => n - (intOf i).toNat)
  case atStart => exact ⟨0, 0, Nat.zero_le _, rfl, rfl, rfl⟩
  case round =>
    obtain ⟨k, u, hk, rfl, rfl, hu⟩ := hrel
    have hub := dv_bound k (fun j hj => HD.out j (by omega))
    rw [← hu] at hub
    have hlt0 : k < n := by omega
    have hck : w.cell? ⟨blk, off + 1 + k, none⟩ = some (.int .u8 (Z (1 + k))) := by
      rw [Nat.add_assoc]; exact hc (1 + k) (by omega)
    have hzk := hZ (1 + k) (by omega)
    by_cases hlt : k < p
    · have hd := HD.out k hlt
      have hpp := pow_le17 (k := k) (by omega)
      have hu2 : u ≤ 100000000000000000 := by omega
      have hu1 : 0 ≤ u := hub.1
      have HN : Hid (dv Z 1 (k + 1) = u * 10 + (Z (1 + k) - 48)) := by
        show dv Z 1 (k + 1) = u * 10 + (Z (1 + k) - 48)
        rw [dv, ← hu]
      clear hub hpp hu hc hc0 hZ hbad
      go_wp2
      go_round
      case rel => exact ⟨k + 1, u * 10 + (Z (1 + k) - 48), by omega, by go_num, rfl, HN.out.symm⟩
      case measure => simp [intOf]; omega
    · obtain rfl : k = p := by omega
      clear hub hu hc hc0 hZ
      rcases hbad with hb | hb
      · go_wp2
        go_ret2
        exact ⟨rfl, rfl⟩
      · have hb2 : ¬ Z (1 + k) < 48 := by omega
        go_wp2
        go_ret2
        exact ⟨rfl, rfl⟩

set_option maxHeartbeats 400000 in
/-- Too many bytes, or none, no '-' ahead. -/
theorem short_pos_len (a : Option Addr) (blk off n cap : Nat) (x b : Int) (w : World) (hl : n ≤ 9223372036854775807) (hn : n = 0 ∨ 18 < n)
    (ha : 0 < n → a = some ⟨blk, off, none⟩) (hc : 0 < n → w.cell? ⟨blk, off, none⟩ = some (.int .u8 x)) (hm : x ≠ 45) :
    Calls Try.prog 30 #[.slice a n cap, .int .i64 b] w fun e w' => e = .returned (.tuple #[.int .i64 0, .bool false]) ∧ w = w' := by
  have hm0 : (x == 45) = false := by simpa using hm
  clear hm
  rcases hn with rfl | hn
  · clear ha hc
    go_enter Try.func30, Try.ntmps30
    go_wp2
    go_ret2
    exact ⟨rfl, rfl⟩
  · obtain rfl := ha (by omega)
    have hc0 := hc (by omega)
    have hnz : ((n : Int) == 0) = false := beq_eq_false_iff_ne.2 (by omega)
    clear ha hc
    go_enter Try.func30, Try.ntmps30
    go_wp2
    go_ret2
    exact ⟨rfl, rfl⟩

set_option maxHeartbeats 400000 in
/-- Too many bytes, or none, behind a '-'. -/
theorem short_neg_len (blk off n cap : Nat) (b : Int) (w : World) (hl : n + 1 ≤ 9223372036854775807) (hcap : n + 1 ≤ cap) (hn : n = 0 ∨ 18 < n)
    (hc : w.cell? ⟨blk, off, none⟩ = some (.int .u8 45)) :
    Calls Try.prog 30 #[.slice (some ⟨blk, off, none⟩) (n + 1) cap, .int .i64 b] w fun e w' => e = .returned (.tuple #[.int .i64 0, .bool false]) ∧ w = w' := by
  rcases hn with rfl | hn
  · go_enter Try.func30, Try.ntmps30
    go_wp2
    all_goals (go_ret2; exact ⟨rfl, rfl⟩)
  · have hnz : ((n : Int) == 0) = false := beq_eq_false_iff_ne.2 (by omega)
    go_enter Try.func30, Try.ntmps30
    go_wp2
    go_ret2
    exact ⟨rfl, rfl⟩
end Go.Proofs.Qxb6601381a
