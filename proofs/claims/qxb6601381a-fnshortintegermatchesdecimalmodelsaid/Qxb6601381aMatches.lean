import Derived.Test.Qxb6601381aModel
namespace Go.Proofs.Qxb6601381a
open Go.RowKit

/-- The function and its model answer alike. -/
def Alike2 (v : Value) (b : Int) (w : World) (x : Int) (r : Bool) : Prop :=
  (Calls Try.prog 30 #[v, .int .i64 b] w fun e w' => e = .returned (.tuple #[.int .i64 x, .bool r]) ∧ w = w') ∧
  (Calls Try.prog 12 #[v, .int .i64 b] w fun e w' => e = .returned (.tuple #[.int .i64 x, .bool r]) ∧ w = w')

theorem both_any (a : Option Addr) (blk off n cap : Nat) (Z : Nat → Int) (b : Int) (w : World) (h1 : 1 ≤ b) (h2 : b ≤ 9223372036854775807) (hl : n ≤ 1048576) (hcap : n ≤ cap)
    (ha : 0 < n → a = some ⟨blk, off, none⟩) (hc : ∀ j, j < n → w.cell? ⟨blk, off + j, none⟩ = some (.int .u8 (Z j))) (hZ : ∀ j, j < n → 0 ≤ Z j ∧ Z j ≤ 255) :
    ∃ x r, Alike2 (.slice a n cap) b w x r := by
  by_cases h0 : n = 0
  · subst h0
    exact ⟨0, false, short_pos_len a blk off 0 cap 0 b w (by omega) (.inl rfl) ha (fun h => by omega) (by omega), model_pos_len a blk off 0 cap 0 b w (by omega) (.inl rfl) ha (fun h => by omega) (by omega)⟩
  · obtain rfl := ha (by omega)
    have hc0 : w.cell? ⟨blk, off, none⟩ = some (.int .u8 (Z 0)) := by simpa using hc 0 (by omega)
    by_cases hm : Z 0 = 45
    · obtain ⟨m, rfl⟩ : ∃ m, n = m + 1 := ⟨n - 1, by omega⟩
      by_cases hlen : m = 0 ∨ 18 < m
      · rw [hm] at hc0
        exact ⟨0, false, short_neg_len blk off m cap b w (by omega) hcap hlen hc0, model_neg_len blk off m cap b w (by omega) hlen hc0⟩
      · by_cases hd : Dig Z 1 m
        · exact ⟨_, _, short_neg blk off m cap Z b w (by omega) (by omega) h1 h2 hcap hc hm hd, model_neg blk off m cap Z b w (by omega) (by omega) h1 h2 hcap hc hm hd⟩
        · obtain ⟨p, hp, hdp, hbad⟩ := first_bad m hd
          exact ⟨0, false, short_neg_bad blk off m cap p Z b w (by omega) (by omega) hcap hc hZ hm hp hdp hbad, model_neg_bad blk off m cap p Z b w (by omega) (by omega) hc hm hp hdp hbad⟩
    · by_cases hlen : n = 0 ∨ 18 < n
      · exact ⟨0, false, short_pos_len _ blk off n cap (Z 0) b w (by omega) hlen (fun _ => rfl) (fun _ => hc0) hm, model_pos_len _ blk off n cap (Z 0) b w (by omega) hlen (fun _ => rfl) (fun _ => hc0) hm⟩
      · by_cases hd : Dig Z 0 n
        · exact ⟨_, _, short_pos blk off n cap Z b w (by omega) (by omega) h1 h2 hc hZ hm hd, model_pos blk off n cap Z b w (by omega) (by omega) h1 h2 hcap hc hm hd⟩
        · obtain ⟨p, hp, hdp, hbad⟩ := first_bad n hd
          rw [Nat.zero_add] at hbad
          exact ⟨0, false, short_pos_bad blk off n cap p Z b w (by omega) (by omega) hc hZ hm hp hdp hbad, model_pos_bad blk off n cap p Z b w (by omega) (by omega) hc hm hp hdp hbad⟩

set_option maxHeartbeats 400000 in
theorem matches_law (a : Option Addr) (n cap blk off : Nat) (Z : Nat → Int) (b : Int) (w : World) (h2 : b ≤ 9223372036854775807) (hl : n ≤ 9223372036854775807)
    (hnil : a = none → n = 0 ∧ cap = 0) (ha : 0 < n → a = some ⟨blk, off, none⟩) (hc : ∀ j, j < n → w.cell? ⟨blk, off + j, none⟩ = some (.int .u8 (Z j))) (hZ : ∀ j, j < n → 0 ≤ Z j ∧ Z j ≤ 255) :
    Calls Try.prog 3 #[.slice a n cap, .int .i64 b] w fun e w' => e = .returned (.bool true) ∧ Below w.heap.size w w' := by
  by_cases hbig : n ≤ 1048576
  · have H9 := zzbytes_any a n cap b w hl
    rw [decide_eq_true hbig] at H9
    have K9 : Hid (Calls Try.prog 9 #[.slice a n cap, .int .i64 b] w fun e w' => e = .returned (.bool true) ∧ w = w') := H9
    clear H9
    by_cases h1 : b < 1
    · clear hc hZ ha hnil
      go_enter Try.func3, Try.ntmps3
      go_wp2_with (go_at_call 9; refine (Hid.out K9).mono ?_; rintro e w' ⟨rfl, rfl⟩)
      go_ret
      exact ⟨rfl, Below.refl _ _⟩
    · have h1' : 1 ≤ b := by omega
      cases a with
      | none =>
        obtain ⟨rfl, rfl⟩ := hnil rfl
        obtain ⟨x, r, S, M⟩ := both_any none blk off 0 0 Z b w h1' h2 (by omega) (by omega) ha hc hZ
        have KS : Hid _ := S
        have KM : Hid (Calls Try.prog 12 #[.slice none 0 0, .int .i64 b] w fun e w' => e = .returned (.tuple #[.int .i64 x, .bool r]) ∧ w = w') := M
        have KS : Hid (Calls Try.prog 30 #[.slice none 0 0, .int .i64 b] w fun e w' => e = .returned (.tuple #[.int .i64 x, .bool r]) ∧ w = w') := S
        clear S M hc hZ ha hnil
        go_enter Try.func3, Try.ntmps3
        go_wp2_with (first | (go_at_call 9; refine (Hid.out K9).mono ?_; rintro e w' ⟨rfl, rfl⟩) | (go_at_call 10; refine (clone_nil _).mono ?_; rintro e w' ⟨rfl, rfl⟩) | (go_at_call 11; go_in) | (go_at_call 30; refine (Hid.out KS).mono ?_; rintro e w' ⟨rfl, rfl⟩) | (go_at_call 12; refine (Hid.out KM).mono ?_; rintro e w' ⟨rfl, rfl⟩))
        go_ret
        exact ⟨rfl, Below.refl _ _⟩
      | some x =>
        have HC := clone_any blk off n cap Z w hbig hc x (fun h => by simpa using ha h)
        have KC : Hid (Calls Try.prog 10 #[.slice (some x) n cap] w fun e w' => e = .returned (.slice (some ⟨w.heap.size, 0, none⟩) n n) ∧ Below w.heap.size w w' ∧ ∀ j, j < n → w'.cell? ⟨w.heap.size, j, none⟩ = some (.int .u8 (Z j))) := HC
        have HZ : Hid _ := hZ
        clear HC hc ha hnil hZ
        go_enter Try.func3, Try.ntmps3
        go_wp2_with (first | (go_at_call 9; refine (Hid.out K9).mono ?_; rintro e w' ⟨rfl, rfl⟩))
        refine (Hid.out KC).mono ?_
        rintro e w1 ⟨rfl, hb, hc1⟩
        obtain ⟨y, r, S, M⟩ := both_any (some ⟨w.heap.size, 0, none⟩) w.heap.size 0 n n Z b w1 h1' h2 hbig (Nat.le_refl _) (fun _ => rfl) (fun j hj => by rw [Nat.zero_add]; exact hc1 j hj) HZ.out
        have KM : Hid (Calls Try.prog 12 #[.slice (some ⟨w.heap.size, 0, none⟩) n n, .int .i64 b] w1 fun e w' => e = .returned (.tuple #[.int .i64 y, .bool r]) ∧ w1 = w') := M
        have KS : Hid (Calls Try.prog 30 #[.slice (some ⟨w.heap.size, 0, none⟩) n n, .int .i64 b] w1 fun e w' => e = .returned (.tuple #[.int .i64 y, .bool r]) ∧ w1 = w') := S
        clear S M hc1
        go_wp2_with (first | (go_at_call 11; go_in) | (go_at_call 30; refine (Hid.out KS).mono ?_; rintro e w' ⟨rfl, rfl⟩) | (go_at_call 12; refine (Hid.out KM).mono ?_; rintro e w' ⟨rfl, rfl⟩))
        go_ret
        exact ⟨rfl, hb⟩
  · have H9 := zzbytes_any a n cap b w hl
    rw [decide_eq_false hbig] at H9
    have K9 : Hid (Calls Try.prog 9 #[.slice a n cap, .int .i64 b] w fun e w' => e = .returned (.bool false) ∧ w = w') := H9
    clear H9 hc hZ ha hnil
    go_enter Try.func3, Try.ntmps3
    go_wp2_with (go_at_call 9; refine (Hid.out K9).mono ?_; rintro e w' ⟨rfl, rfl⟩)
    go_ret
    exact ⟨rfl, Below.refl _ _⟩
end Go.Proofs.Qxb6601381a
