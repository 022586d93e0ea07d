import Derived.Test.Qxb6601511aBuild
import Derived.Deep.Cut
namespace Go.Proofs.Qxb6601511a
open Go.RowKit

theorem pl_mod {size head i : Nat} (h1 : head < size) (h2 : i < size) : ((head : Int) + (i : Int)) % (size : Int) = ((pl size head i : Nat) : Int) := by
  unfold pl
  split
  · rw [Int.emod_eq_of_lt (by omega) (by omega)]; omega
  · rw [show ((head : Int) + (i : Int)) = ((head : Int) + (i : Int) - (size : Int)) + (size : Int) from by omega, Int.add_emod_right, Int.emod_eq_of_lt (by omega) (by omega)]; omega

theorem hide {p : Prop} (h : p) : Hid p := h

set_option maxHeartbeats 1000000 in
theorem lands_ss (x0 x1 : Addr) (b0 o0 b1 o1 n0 c0 n1 c1 : Nat) (H0 H1 : Nat → Int) (head cnt ah al : Int) (w : World) (hn0 : n0 ≤ 9223372036854775807) (hn1 : n1 ≤ 9223372036854775807)
    (hx0 : 0 < n0 → x0 = ⟨b0, o0, none⟩) (hx1 : 0 < n1 → x1 = ⟨b1, o1, none⟩)
    (hc0 : ∀ j, j < n0 → w.cell? ⟨b0, o0 + j, none⟩ = some (.int .u64 (H0 j))) (hc1 : ∀ j, j < n1 → w.cell? ⟨b1, o1 + j, none⟩ = some (.int .u64 (H1 j)))
    (hh1 : -9223372036854775808 ≤ head) (hh2 : head ≤ 9223372036854775807) (hk1 : -9223372036854775808 ≤ cnt) (hk2 : cnt ≤ 9223372036854775807) :
    Calls Try.prog 4 #[.slice (some x0) n0 c0, .slice (some x1) n1 c1, .int .i64 head, .int .i64 cnt, .int .u64 ah, .int .u64 al] w fun e w' => e = .returned (.bool true) ∧ Below w.heap.size w w' := by
  have hne0 := fun wx => run_neq_slice_nil_any (P := Try.prog) wx 22 23 (some x0) n0 c0 0 0 Try.underlying22
  have hne1 := fun wx => run_neq_slice_nil_any (P := Try.prog) wx 22 23 (some x1) n1 c1 0 0 Try.underlying22
  go_enter Try.func4, Try.ntmps4
  go_wp2_with fail
  refine (bytes14 _ _ _ _ _ _ _ _ _ _ _ hn0 hn1).mono ?_
  rintro e w' ⟨⟨r, rfl⟩, rfl⟩
  cases r
  · go_wp2_with fail
    go_ret
    exact ⟨rfl, Below.refl _ _⟩
  by_cases hb0 : n0 ≤ 65536
  rotate_left
  · go_wp2_with fail
    go_ret
    exact ⟨rfl, Below.refl _ _⟩
  by_cases hb1 : n1 ≤ 65536
  rotate_left
  · go_wp2_with fail
    go_ret
    exact ⟨rfl, Below.refl _ _⟩
  have hmk0 := run_make_row' (P := Try.prog) 22 23 (.int .u64 0) 8 Try.underlying22 Try.info23 rfl .i64 .i64 n0 (by omega) (by omega)
  have hmk1 := run_make_row' (P := Try.prog) 22 23 (.int .u64 0) 8 Try.underlying22 Try.info23 rfl .i64 .i64 n1 (by omega) (by omega)
  have HX : Hid (_ ∧ _ ∧ _ ∧ _) := ⟨hx0, hx1, hc0, hc1⟩
  clear hx0 hx1 hc0 hc1
  go_upto_region 7 with fail
  go_wp2_with (refine wpList_copyrow rfl _ _ rfl x0 b0 o0 n0 c0 H0 w rfl rfl HX.out.1 HX.out.2.2.1 ?_; intro w1 hb1 hz1 hr1; refine Hid.out ?_)
  refine hide ?_
  have hcx1 : ∀ j, j < n1 → w1.cell? ⟨b1, o1 + j, none⟩ = some (.int .u64 (H1 j)) := fun j hj =>
    (hb1.cell (p := ⟨b1, o1 + j, none⟩) (World.block_lt_of_cell? _ _ (HX.out.2.2.2 j hj))).trans (HX.out.2.2.2 j hj)
  have HR : Hid (_ ∧ _) := ⟨hr1, hcx1⟩
  clear hr1 hcx1 hmk0
  go_upto_region 11 with fail
  go_wp2_with (refine wpList_copyrow rfl _ _ rfl x1 b1 o1 n1 c1 H1 w1 rfl rfl HX.out.2.1 HR.out.2 ?_; intro w2 hb2 hz2 hr2; refine Hid.out ?_)
  refine hide ?_
  have hr1' : ∀ j, j < n0 → w2.cell? ⟨w.heap.size, j, none⟩ = some (.int .u64 (H0 j)) := fun j hj =>
    (hb2.cell (p := ⟨w.heap.size, j, none⟩) hz1).trans (HR.out.1 j hj)
  have hbw : Below w.heap.size w w2 := hb1.trans (hb2.mono hb1.size)
  have HC : Hid (_ ∧ _) := ⟨hr1', hr2⟩
  clear HR HX hr1' hr2 hmk1 hne0 hne1 hb1 hb2
  by_cases hnn : n0 = n1
  rotate_left
  · have hnn' : ((n1 : Int) != (n0 : Int)) = true := by simp; omega
    go_wp2_with fail
    go_ret
    exact ⟨rfl, hbw⟩
  subst hnn
  by_cases hsh : Shape n0 head cnt
  rotate_left
  · have K9 : Hid (∀ W, Calls Try.prog 9 #[.int .i64 n0, .int .i64 head, .int .i64 cnt] W fun e w' => e = .returned (.bool false) ∧ W = w') := fun W => shape_no n0 head cnt W hsh
    clear hsh
    go_wp2_with (go_at_call 9; refine (Hid.out K9 _).mono ?_; rintro e w' ⟨rfl, rfl⟩)
    go_ret
    exact ⟨rfl, hbw⟩
  have K9 : Hid (∀ W, Calls Try.prog 9 #[.int .i64 n0, .int .i64 head, .int .i64 cnt] W fun e w' => e = .returned (.bool true) ∧ W = w') := fun W => shape_yes n0 head cnt W hsh
  obtain ⟨hs1, hs2, hs3⟩ := hsh
  by_cases hp : 0 < n0
  · obtain ⟨hd1, hd2⟩ := hs3 (by omega)
    obtain ⟨hd, rfl⟩ := Int.eq_ofNat_of_zero_le hd1
    obtain ⟨ct, rfl⟩ := Int.eq_ofNat_of_zero_le hs1
    clear hs3
    go_wp2_with (go_at_call 9; refine (Hid.out K9 _).mono ?_; rintro e w' ⟨rfl, rfl⟩)
    refine (build_pos w.heap.size 0 w1.heap.size 0 n0 n0 n0 hd ct H0 H1 w2 hp hb0 (fun j hj => by rw [Nat.zero_add]; exact HC.out.1 j hj) (fun j hj => by rw [Nat.zero_add]; exact HC.out.2 j hj)).mono ?_
    rintro e w3 ⟨L, g, rfl, hLog, hb3⟩
    go_wp2_with fail
    refine (zzafter_any L g n0 hd ct H0 H1 ah al w3 hb0 (by omega) (by omega) hLog).mono ?_
    rintro e w4 ⟨r, ⟨hr1, hr2, hr3⟩, rfl, hb4⟩
    have hb24 : Below w2.heap.size w2 w4 := hb3.trans (hb4.mono hb3.size)
    have hbw4 : Below w.heap.size w w4 := hbw.trans (hb24.mono hbw.size)
    have hc0 : ∀ j, j < n0 → w4.cell? ⟨w.heap.size, j, none⟩ = some (.int .u64 (H0 j)) := fun j hj => (hb24.cell (p := ⟨w.heap.size, j, none⟩) (World.block_lt_of_cell? _ _ (HC.out.1 j hj))).trans (HC.out.1 j hj)
    have hc1 : ∀ j, j < n0 → w4.cell? ⟨w1.heap.size, j, none⟩ = some (.int .u64 (H1 j)) := fun j hj => (hb24.cell (p := ⟨w1.heap.size, j, none⟩) (World.block_lt_of_cell? _ _ (HC.out.2 j hj))).trans (HC.out.2 j hj)
    have K13 := zzless_any ah al
    have KK : Hid _ := K13
    clear hLog hb3 hb4 hb24 K9 HC K13
    have P1 : 0 < r → ∃ q, ((hd : Int) + (r : Int) - 1) % (n0 : Int) = ((q : Nat) : Int) ∧ q < n0 ∧ lt2 ah al (H0 q) (H1 q) = false := fun h => ⟨pl n0 hd (r - 1), by rw [← pl_mod (by omega) (by omega)]; congr 1; omega, pl_lt (by omega) (by omega), hr2 h⟩
    have P2 : r < ct → ∃ q, ((hd : Int) + (r : Int)) % (n0 : Int) = ((q : Nat) : Int) ∧ q < n0 ∧ lt2 ah al (H0 q) (H1 q) = true := fun h => ⟨pl n0 hd r, pl_mod (by omega) (by omega), pl_lt (by omega) (by omega), hr3 h⟩
    clear hr2 hr3
    by_cases hr0 : 0 < r
    · obtain ⟨q, hq1, hq2, hq3⟩ := P1 hr0
      have g0 := hc0 q hq2
      have g1 := hc1 q hq2
      have A13 := zzless_any ah al (H0 q) (H1 q)
      rw [hq3] at A13
      have A : Hid (∀ W, Calls Try.prog 13 #[.int .u64 ah, .int .u64 al, .int .u64 (H0 q), .int .u64 (H1 q)] W fun e w' => e = .returned (.bool false) ∧ W = w') := A13
      clear P1 A13 hq3
      by_cases hrn : r < ct
      · obtain ⟨t, ht1, ht2, ht3⟩ := P2 hrn
        have u0 := hc0 t ht2
        have u1 := hc1 t ht2
        have B13 := zzless_any ah al (H0 t) (H1 t)
        rw [ht3] at B13
        have B : Hid (∀ W, Calls Try.prog 13 #[.int .u64 ah, .int .u64 al, .int .u64 (H0 t), .int .u64 (H1 t)] W fun e w' => e = .returned (.bool true) ∧ W = w') := B13
        clear P2 B13 ht3 hc0 hc1 KK
        go_wp2_with fail
        rw [hq1]
        have hqn : (q : Int) < (n0 : Int) := by omega
        have htn : (t : Int) < (n0 : Int) := by omega
        go_quiet ((go_at_call 13; exact Calls.quiet_of_same ((Hid.out A _).mono fun e w' h => ⟨h.1, h.2.symm⟩)))
        have u0' : (w4.drewN nq).cell? ⟨w.heap.size, t, none⟩ = some (.int .u64 (H0 t)) := u0
        have u1' : (w4.drewN nq).cell? ⟨w1.heap.size, t, none⟩ = some (.int .u64 (H1 t)) := u1
        have hb5 := below_drewN hbw4 nq
        clear u0 u1 g0 g1
        generalize w4.drewN nq = w5 at u0' u1' hb5 ⊢
        go_wp2_with fail
        rw [ht1]
        go_quiet ((go_at_call 13; exact Calls.quiet_of_same ((Hid.out B _).mono fun e w' h => ⟨h.1, h.2.symm⟩)))
        go_wp2_with fail
        go_ret
        exact ⟨rfl, below_drewN hb5 _⟩
      · clear P2 hc0 hc1 KK
        go_wp2_with fail
        rw [hq1]
        have hqn : (q : Int) < (n0 : Int) := by omega
        go_quiet ((go_at_call 13; exact Calls.quiet_of_same ((Hid.out A _).mono fun e w' h => ⟨h.1, h.2.symm⟩)))
        go_wp2_with fail
        go_ret
        exact ⟨rfl, below_drewN hbw4 _⟩
    · clear P1
      by_cases hrn : r < ct
      · obtain ⟨t, ht1, ht2, ht3⟩ := P2 hrn
        have u0 := hc0 t ht2
        have u1 := hc1 t ht2
        have B13 := zzless_any ah al (H0 t) (H1 t)
        rw [ht3] at B13
        have B : Hid (∀ W, Calls Try.prog 13 #[.int .u64 ah, .int .u64 al, .int .u64 (H0 t), .int .u64 (H1 t)] W fun e w' => e = .returned (.bool true) ∧ W = w') := B13
        clear P2 B13 ht3 hc0 hc1 KK
        go_wp2_with fail
        rw [ht1]
        have htn : (t : Int) < (n0 : Int) := by omega
        go_quiet ((go_at_call 13; exact Calls.quiet_of_same ((Hid.out B _).mono fun e w' h => ⟨h.1, h.2.symm⟩)))
        go_wp2_with fail
        go_ret
        exact ⟨rfl, below_drewN hbw4 _⟩
      · clear P2 hc0 hc1 KK
        go_wp2_with fail
        go_ret
        exact ⟨rfl, hbw4⟩
  · obtain rfl : n0 = 0 := by omega
    obtain rfl : cnt = 0 := by omega
    go_wp2_with (go_at_call 9; refine (Hid.out K9 _).mono ?_; rintro e w' ⟨rfl, rfl⟩)
    refine (build_zero _ _ 0 0 head w2).mono ?_
    rintro e w3 ⟨L, rfl, hc2, hb3⟩
    go_wp2_with fail
    refine (zzafter_zero L ah al w3 hc2).mono ?_
    rintro e w4 ⟨rfl, hb4⟩
    clear K9 HC
    go_wp2_with fail
    go_ret
    exact ⟨rfl, hbw.trans ((hb3.trans (hb4.mono hb3.size)).mono hbw.size)⟩

set_option maxHeartbeats 1000000 in
theorem lands_nn (head cnt ah al : Int) (w : World) :
    Calls Try.prog 4 #[.slice none 0 0, .slice none 0 0, .int .i64 head, .int .i64 cnt, .int .u64 ah, .int .u64 al] w fun e w' => e = .returned (.bool true) ∧ Below w.heap.size w w' := by
  have hne0 := fun wx => run_neq_slice_nil_any (P := Try.prog) wx 22 23 none 0 0 0 0 Try.underlying22
  have hne1 := fun wx => run_neq_slice_nil_any (P := Try.prog) wx 22 23 none 0 0 0 0 Try.underlying22
  go_enter Try.func4, Try.ntmps4
  go_wp2_with fail
  refine (bytes14 _ _ _ _ _ _ _ _ _ _ _ (by omega) (by omega)).mono ?_
  rintro e w' ⟨⟨r, rfl⟩, rfl⟩
  cases r
  · go_wp2_with fail
    go_ret
    exact ⟨rfl, Below.refl _ _⟩
  have hbw := Below.refl w.heap.size w
  by_cases hsh : Shape 0 head cnt
  rotate_left
  · have K9 : Hid (∀ W, Calls Try.prog 9 #[.int .i64 0, .int .i64 head, .int .i64 cnt] W fun e w' => e = .returned (.bool false) ∧ W = w') := fun W => shape_no 0 head cnt W hsh
    clear hsh
    go_wp2_with (go_at_call 9; refine (Hid.out K9 _).mono ?_; rintro e w' ⟨rfl, rfl⟩)
    go_ret
    exact ⟨rfl, hbw⟩
  have K9 : Hid (∀ W, Calls Try.prog 9 #[.int .i64 0, .int .i64 head, .int .i64 cnt] W fun e w' => e = .returned (.bool true) ∧ W = w') := fun W => shape_yes 0 head cnt W hsh
  obtain ⟨hs1, hs2, hs3⟩ := hsh
  obtain rfl : cnt = 0 := by omega
  clear hs3
  go_wp2_with (go_at_call 9; refine (Hid.out K9 _).mono ?_; rintro e w' ⟨rfl, rfl⟩)
  refine (build_zero _ _ 0 0 head w).mono ?_
  rintro e w3 ⟨L, rfl, hc2, hb3⟩
  go_wp2_with fail
  refine (zzafter_zero L ah al w3 hc2).mono ?_
  rintro e w4 ⟨rfl, hb4⟩
  clear K9
  go_wp2_with fail
  go_ret
  exact ⟨rfl, hbw.trans ((hb3.trans (hb4.mono hb3.size)).mono hbw.size)⟩

set_option maxHeartbeats 1000000 in
theorem lands_ns (x1 : Addr) (b1 o1 n1 c1 : Nat) (H1 : Nat → Int) (head cnt ah al : Int) (w : World) (hn1 : n1 ≤ 9223372036854775807) (hx1 : 0 < n1 → x1 = ⟨b1, o1, none⟩) (hc1 : ∀ j, j < n1 → w.cell? ⟨b1, o1 + j, none⟩ = some (.int .u64 (H1 j))) :
    Calls Try.prog 4 #[.slice none 0 0, .slice (some x1) n1 c1, .int .i64 head, .int .i64 cnt, .int .u64 ah, .int .u64 al] w fun e w' => e = .returned (.bool true) ∧ Below w.heap.size w w' := by
  have hne0 := fun wx => run_neq_slice_nil_any (P := Try.prog) wx 22 23 none 0 0 0 0 Try.underlying22
  have hne1 := fun wx => run_neq_slice_nil_any (P := Try.prog) wx 22 23 (some x1) n1 c1 0 0 Try.underlying22
  go_enter Try.func4, Try.ntmps4
  go_wp2_with fail
  refine (bytes14 _ _ _ _ _ _ _ _ _ _ _ (by omega) hn1).mono ?_
  rintro e w' ⟨⟨r, rfl⟩, rfl⟩
  cases r
  · go_wp2_with fail
    go_ret
    exact ⟨rfl, Below.refl _ _⟩
  by_cases hb1 : n1 ≤ 65536
  rotate_left
  · go_wp2_with fail
    go_ret
    exact ⟨rfl, Below.refl _ _⟩
  have hmk1 := run_make_row' (P := Try.prog) 22 23 (.int .u64 0) 8 Try.underlying22 Try.info23 rfl .i64 .i64 n1 (by omega) (by omega)
  have HX1 : Hid (_ ∧ _) := ⟨hx1, hc1⟩
  clear hx1 hc1
  go_upto_region 11 with fail
  go_wp2_with (refine wpList_copyrow rfl _ _ rfl x1 b1 o1 n1 c1 H1 w rfl rfl HX1.out.1 HX1.out.2 ?_; intro w2 hbw hz1 hr1; refine Hid.out ?_)
  refine hide ?_
  clear hmk1 hr1 HX1
  by_cases hnn : n1 = 0
  rotate_left
  · have hnn' : ((n1 : Int) != 0) = true := by simp; omega
    go_wp2_with fail
    go_ret
    exact ⟨rfl, hbw⟩
  subst hnn
  by_cases hsh : Shape 0 head cnt
  rotate_left
  · have K9 : Hid (∀ W, Calls Try.prog 9 #[.int .i64 0, .int .i64 head, .int .i64 cnt] W fun e w' => e = .returned (.bool false) ∧ W = w') := fun W => shape_no 0 head cnt W hsh
    clear hsh
    go_wp2_with (go_at_call 9; refine (Hid.out K9 _).mono ?_; rintro e w' ⟨rfl, rfl⟩)
    go_ret
    exact ⟨rfl, hbw⟩
  have K9 : Hid (∀ W, Calls Try.prog 9 #[.int .i64 0, .int .i64 head, .int .i64 cnt] W fun e w' => e = .returned (.bool true) ∧ W = w') := fun W => shape_yes 0 head cnt W hsh
  obtain ⟨hs1, hs2, hs3⟩ := hsh
  obtain rfl : cnt = 0 := by omega
  clear hs3
  go_wp2_with (go_at_call 9; refine (Hid.out K9 _).mono ?_; rintro e w' ⟨rfl, rfl⟩)
  refine (build_zero _ _ 0 0 head w2).mono ?_
  rintro e w3 ⟨L, rfl, hc2, hb3⟩
  go_wp2_with fail
  refine (zzafter_zero L ah al w3 hc2).mono ?_
  rintro e w4 ⟨rfl, hb4⟩
  clear K9
  go_wp2_with fail
  go_ret
  exact ⟨rfl, hbw.trans ((hb3.trans (hb4.mono hb3.size)).mono hbw.size)⟩

set_option maxHeartbeats 1000000 in
theorem lands_sn (x0 : Addr) (b0 o0 n0 c0 : Nat) (H0 : Nat → Int) (head cnt ah al : Int) (w : World) (hn0 : n0 ≤ 9223372036854775807) (hx0 : 0 < n0 → x0 = ⟨b0, o0, none⟩) (hc0 : ∀ j, j < n0 → w.cell? ⟨b0, o0 + j, none⟩ = some (.int .u64 (H0 j))) :
    Calls Try.prog 4 #[.slice (some x0) n0 c0, .slice none 0 0, .int .i64 head, .int .i64 cnt, .int .u64 ah, .int .u64 al] w fun e w' => e = .returned (.bool true) ∧ Below w.heap.size w w' := by
  have hne0 := fun wx => run_neq_slice_nil_any (P := Try.prog) wx 22 23 (some x0) n0 c0 0 0 Try.underlying22
  have hne1 := fun wx => run_neq_slice_nil_any (P := Try.prog) wx 22 23 none 0 0 0 0 Try.underlying22
  go_enter Try.func4, Try.ntmps4
  go_wp2_with fail
  refine (bytes14 _ _ _ _ _ _ _ _ _ _ _ hn0 (by omega)).mono ?_
  rintro e w' ⟨⟨r, rfl⟩, rfl⟩
  cases r
  · go_wp2_with fail
    go_ret
    exact ⟨rfl, Below.refl _ _⟩
  by_cases hb0 : n0 ≤ 65536
  rotate_left
  · go_wp2_with fail
    go_ret
    exact ⟨rfl, Below.refl _ _⟩
  have hmk0 := run_make_row' (P := Try.prog) 22 23 (.int .u64 0) 8 Try.underlying22 Try.info23 rfl .i64 .i64 n0 (by omega) (by omega)
  have HX0 : Hid (_ ∧ _) := ⟨hx0, hc0⟩
  clear hx0 hc0
  go_upto_region 7 with fail
  go_wp2_with (refine wpList_copyrow rfl _ _ rfl x0 b0 o0 n0 c0 H0 w rfl rfl HX0.out.1 HX0.out.2 ?_; intro w2 hbw hz1 hr1; refine Hid.out ?_)
  refine hide ?_
  clear hmk0 hr1 HX0
  by_cases hnn : n0 = 0
  rotate_left
  · have hnn' : ((0 : Int) != (n0 : Int)) = true := by simp; omega
    go_wp2_with fail
    go_ret
    exact ⟨rfl, hbw⟩
  subst hnn
  by_cases hsh : Shape 0 head cnt
  rotate_left
  · have K9 : Hid (∀ W, Calls Try.prog 9 #[.int .i64 0, .int .i64 head, .int .i64 cnt] W fun e w' => e = .returned (.bool false) ∧ W = w') := fun W => shape_no 0 head cnt W hsh
    clear hsh
    go_wp2_with (go_at_call 9; refine (Hid.out K9 _).mono ?_; rintro e w' ⟨rfl, rfl⟩)
    go_ret
    exact ⟨rfl, hbw⟩
  have K9 : Hid (∀ W, Calls Try.prog 9 #[.int .i64 0, .int .i64 head, .int .i64 cnt] W fun e w' => e = .returned (.bool true) ∧ W = w') := fun W => shape_yes 0 head cnt W hsh
  obtain ⟨hs1, hs2, hs3⟩ := hsh
  obtain rfl : cnt = 0 := by omega
  clear hs3
  go_wp2_with (go_at_call 9; refine (Hid.out K9 _).mono ?_; rintro e w' ⟨rfl, rfl⟩)
  refine (build_zero _ _ 0 0 head w2).mono ?_
  rintro e w3 ⟨L, rfl, hc2, hb3⟩
  go_wp2_with fail
  refine (zzafter_zero L ah al w3 hc2).mono ?_
  rintro e w4 ⟨rfl, hb4⟩
  clear K9
  go_wp2_with fail
  go_ret
  exact ⟨rfl, hbw.trans ((hb3.trans (hb4.mono hb3.size)).mono hbw.size)⟩
end Go.Proofs.Qxb6601511a
