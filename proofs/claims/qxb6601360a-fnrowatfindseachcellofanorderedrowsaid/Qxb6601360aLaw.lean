import Derived.Test.Qxb6601360aParts
import Derived.Deep.RegionWith
namespace Go.Proofs.Qxb6601360a
open Go.RowKit

theorem at_from (num : Int) (B k i : Nat) (C : Nat → Int) (T : Nat → ByteArray) (w2 W : World) (hl : k ≤ 65536) (hi : i < k) (hs : ∀ j, j < i → C j ≠ C i) (hB : B < w2.heap.size)
    (d0 : ∀ j, j < k → w2.cell? ⟨B, j * 2, none⟩ = some (.int .i64 (C j))) (d1 : ∀ j, j < k → w2.cell? ⟨B, j * 2 + 1, none⟩ = some (.string (T j))) (h : Below w2.heap.size w2 W) (hx : w2.heap.size < W.heap.size) :
    Calls Try.prog 9 #[.agg #[.int .i64 num, .slice (some ⟨B, 0, none⟩) k k], .int .i64 (C i)] W fun e w' => e = .returned (.agg #[.int .i64 (C i), .string (T i)]) ∧ Below w2.heap.size w2 w' ∧ w2.heap.size < w'.heap.size ∧
      (∀ j, w2.heap.size + 1 < W.heap.size → w'.cell? ⟨w2.heap.size + 1, j, none⟩ = W.cell? ⟨w2.heap.size + 1, j, none⟩) ∧ (∀ j, w2.heap.size + 1 < W.heap.size → w'.frozen? ⟨w2.heap.size + 1, j, none⟩ = W.frozen? ⟨w2.heap.size + 1, j, none⟩) := by
  have := at_any num (C i) B 0 k k C T W hl (fun j hj => by rw [h.cell (p := ⟨B, 0 + j * 2, none⟩) hB]; simpa using d0 j hj) (fun j hj => by rw [h.cell (p := ⟨B, 0 + j * 2 + 1, none⟩) hB]; simpa using d1 j hj)
  rw [find_hit C T i k 0 (Nat.zero_le _) (by omega) (fun j _ h => hs j h)] at this
  exact this.mono fun e w' ⟨he, hb⟩ => ⟨he, h.trans (hb.mono h.size), Nat.lt_of_lt_of_le hx hb.size, fun j hj => hb.cell (p := ⟨_, j, none⟩) hj, fun j hj => hb.frozen (p := ⟨_, j, none⟩) hj⟩

theorem sorted_lt (C : Nat → Int) (k : Nat) (h : ∀ j, 1 ≤ j → j < k → C (j - 1) < C j) (j : Nat) : ∀ i, j < i → i < k → C j < C i
  | 0, h1, _ => by omega
  | i + 1, h1, h2 => by
    have hst : C i < C (i + 1) := h (i + 1) (by omega) h2
    by_cases e : j = i
    · subst e; exact hst
    · exact Int.lt_trans (sorted_lt C k h j i (by omega) (by omega)) hst

set_option maxHeartbeats 1000000 in
theorem law_in (num : Int) (b off len cap i : Nat) (C : Nat → Int) (T : Nat → ByteArray) (w : World) (hl : len ≤ 9223372036854775807)
    (hc0 : ∀ k, k < len → w.cell? ⟨b, off + k * 2, none⟩ = some (.int .i64 (C k)))
    (hc1 : ∀ k, k < len → w.cell? ⟨b, off + k * 2 + 1, none⟩ = some (.string (T k))) (hi : i < len) :
    Calls Try.prog 3 #[.int .i64 num, .slice (some ⟨b, off, none⟩) len cap, .int .i64 i] w fun e w' => e = .returned (.bool true) ∧ Below w.heap.size w w' := by
  have hi1 : (i : Int) < len := by omega
  have hbw : b < w.heap.size := World.block_lt_of_cell? _ _ (hc0 0 (by omega))
  go_enter Try.func3, Try.ntmps3
  go_wp2_with fail
  refine (bytes_any num i (some ⟨b, off, none⟩) b off len cap T w hl (fun _ => rfl) hc1).mono ?_
  rintro e w' ⟨⟨r, rfl⟩, rfl⟩
  cases r
  · go_wp2_with fail
    go_ret
    exact ⟨rfl, Below.refl _ _⟩
  go_wp2_with fail
  refine (big_any (some ⟨b, off, none⟩) b off len cap T _ hl (fun _ => rfl) hc1).mono ?_
  rintro e w' ⟨⟨r, rfl, hr⟩, rfl⟩
  cases r
  rotate_left
  · go_wp2_with fail
    go_ret
    exact ⟨rfl, Below.refl _ _⟩
  have hl6 : len ≤ 65536 := hr rfl
  clear hr
  go_wp2_with fail
  go_loopw [7] (fun t wr => ∃ k : Nat, 1 ≤ k ∧ k ≤ len ∧ t = .int .i64 k ∧ Below w.heap.size w wr ∧ (∀ j, 1 ≤ j → j < k → C (j - 1) < C j)) (fun t _ => len - (intOf t).toNat)
  case atStart => exact ⟨1, by omega, by omega, rfl, Below.refl _ _, fun j h1 h2 => by omega⟩
  case round =>
    obtain ⟨k, hk1, hk2, rfl, hbel, hs⟩ := hrel
    have HS : Hid (∀ j, 1 ≤ j → j < k → C (j - 1) < C j) := hs
    clear hs
    by_cases hlt : k < len
    · have g0 : wr.cell? ⟨b, off + (k - 1) * 2, none⟩ = some (.int .i64 (C (k - 1))) := (hbel.cell (p := ⟨b, off + (k - 1) * 2, none⟩) hbw).trans (hc0 (k - 1) (by omega))
      have g1 : wr.cell? ⟨b, off + k * 2, none⟩ = some (.int .i64 (C k)) := (hbel.cell (p := ⟨b, off + k * 2, none⟩) hbw).trans (hc0 k hlt)
      clear hc0 hc1
      go_wp2
      go_quiet (fail)
      go_wp2
      · go_ret
        exact ⟨rfl, below_drewN hbel _⟩
      · have hq : C (k - 1) < C k := by assumption
        go_roundw
        case rel => exact ⟨k + 1, by omega, by omega, by go_num, below_drewN hbel _, fun j h1 h2 => by
          by_cases e : j = k
          · subst e; exact hq
          · exact HS.out j h1 (by omega)⟩
        case measure => simp [intOf]; omega
    · obtain rfl : k = len := by omega
      have HC0 := fun k hk => (hbel.cell (p := ⟨b, off + k * 2, none⟩) hbw).trans (hc0 k hk)
      have HC1 := fun k hk => (hbel.cell (p := ⟨b, off + k * 2 + 1, none⟩) hbw).trans (hc1 k hk)
      clear hc0 hc1
      go_wp2_with fail
      refine (clone_any b off k cap C T wr hl6 HC0 HC1).mono ?_
      rintro e w1 ⟨rfl, hb1, hr1⟩
      have c0 : ∀ j, j < k → w1.cell? ⟨wr.heap.size, j * 2, none⟩ = some (.int .i64 (C j)) := fun j hj => by
        rw [hr1.cell (by omega)]; simp [cv]
      have c1 : ∀ j, j < k → w1.cell? ⟨wr.heap.size, j * 2 + 1, none⟩ = some (.string (T j)) := fun j hj => by
        rw [hr1.cell (by omega)]; simp [cv, show (j * 2 + 1) / 2 = j from by omega]
      clear HC0 HC1
      go_wp2_with fail
      refine (tocells_any wr.heap.size 0 k k C T w1 hl6 (by simpa using c0) (by simpa using c1)).mono ?_
      rintro e w2 ⟨rfl, hb2, hr2⟩
      have d0 : ∀ j, j < k → w2.cell? ⟨w1.heap.size, j * 2, none⟩ = some (.int .i64 (C j)) := fun j hj => by
        rw [hr2.cell (by omega)]; simp [cv]
      have d1 : ∀ j, j < k → w2.cell? ⟨w1.heap.size, j * 2 + 1, none⟩ = some (.string (T j)) := fun j hj => by
        rw [hr2.cell (by omega)]; simp [cv, show (j * 2 + 1) / 2 = j from by omega]
      have hi2 : i * 2 < k * 2 := by omega
      have hs : ∀ j, j < i → C j ≠ C i := fun j hj => Int.ne_of_lt (sorted_lt C k HS.out j i hj hi)
      have z1 := hr1.lt
      have z2 := hr2.lt
      have q0 : w2.cell? ⟨wr.heap.size, i * 2, none⟩ = some (.int .i64 (C i)) := (hb2.cell (p := ⟨wr.heap.size, i * 2, none⟩) z1).trans (c0 i hi)
      have q1 : w2.cell? ⟨wr.heap.size, i * 2 + 1, none⟩ = some (.string (T i)) := (hb2.cell (p := ⟨wr.heap.size, i * 2 + 1, none⟩) z1).trans (c1 i hi)
      have z3 : wr.heap.size < w2.heap.size := by omega
      have HB2 : Hid (Below w.heap.size w w2 ∧ w.heap.size ≤ w2.heap.size) := ⟨hbel.trans ((hb1.mono hbel.size).trans (hb2.mono (Nat.le_trans hbel.size hb1.size))), Nat.le_trans hbel.size (Nat.le_trans hb1.size hb2.size)⟩
      have HAT := at_from num w1.heap.size k i C T w2
      have HD : Hid (_ ∧ _) := ⟨d0, d1⟩
      have HSS : Hid (_) := hs
      clear c0 c1 d0 d1 hs hr1 hr2
      go_wp2_with fail
      go_region_with (go_at_call 9; refine (HAT _ hl6 hi HSS.out z2 HD.out.1 HD.out.2 (by repeat (first | exact Below.refl _ _ | apply Below.drew | refine Below.alloc ?_ (by simp) _)) (by simp; try omega)).mono ?_; rintro e w3 ⟨rfl, hb4, hz4, hc4, hf4⟩; (have p0 := (hb4.cell (p := ⟨wr.heap.size, i * 2, none⟩) z3).trans q0); (have p1 := (hb4.cell (p := ⟨wr.heap.size, i * 2 + 1, none⟩) z3).trans q1); (have z5 := Nat.lt_trans z3 hz4); (have HB3 : Hid (Below w.heap.size w w3) := HB2.out.1.trans (hb4.mono HB2.out.2)))
      all_goals go_wp2
      all_goals go_quiet (fail)
      all_goals go_wp2
      all_goals go_ret
      all_goals refine ⟨rfl, below_drewN ?_ _⟩
      all_goals have hzz := HB2.out.2
      all_goals first | exact set_two HB3.out (by omega) _ _ | exact HB3.out.alloc (by omega) _

set_option maxHeartbeats 1000000 in
theorem law_out (num i : Int) (a : Option Addr) (b off len cap : Nat) (T : Nat → ByteArray) (w : World) (hl : len ≤ 9223372036854775807) (ha : 0 < len → a = some ⟨b, off, none⟩)
    (hc1 : ∀ k, k < len → w.cell? ⟨b, off + k * 2 + 1, none⟩ = some (.string (T k))) (hi : i < 0 ∨ (len : Int) ≤ i) :
    Calls Try.prog 3 #[.int .i64 num, .slice a len cap, .int .i64 i] w fun e w' => e = .returned (.bool true) ∧ Below w.heap.size w w' := by
  go_enter Try.func3, Try.ntmps3
  go_wp2_with fail
  refine (bytes_any num i a b off len cap T w hl ha hc1).mono ?_
  rintro e w' ⟨⟨r, rfl⟩, rfl⟩
  cases r
  · go_wp2_with fail
    go_ret
    exact ⟨rfl, Below.refl _ _⟩
  go_wp2_with fail
  refine (big_any a b off len cap T _ hl ha hc1).mono ?_
  rintro e w' ⟨⟨r, rfl, hr⟩, rfl⟩
  clear hr
  cases r
  rotate_left
  · go_wp2_with fail
    go_ret
    exact ⟨rfl, Below.refl _ _⟩
  by_cases h0 : i < 0
  · go_wp2_with fail
    go_ret
    exact ⟨rfl, Below.refl _ _⟩
  · have h1 : (len : Int) ≤ i := by omega
    go_wp2_with fail
    go_ret
    exact ⟨rfl, Below.refl _ _⟩
end Go.Proofs.Qxb6601360a
