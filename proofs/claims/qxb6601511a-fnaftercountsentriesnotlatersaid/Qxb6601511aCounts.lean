import Derived.Test.Qxb6601511aLands
namespace Go.Proofs.Qxb6601511a
open Go.RowKit

/-- The entries never step back. -/
def Sorted (size head n : Nat) (HI LO : Nat → Int) : Prop := ∀ k, 1 ≤ k → k < n → lt2 (HI (pl size head k)) (LO (pl size head k)) (HI (pl size head (k - 1))) (LO (pl size head (k - 1))) = false

theorem lt2_trans {a b c d e f : Int} (h1 : lt2 a b c d = true) (h2 : lt2 e f c d = false) : lt2 a b e f = true := by
  unfold lt2 at *
  by_cases x : a = c
  · subst x
    rw [if_pos rfl] at h1
    by_cases y : e = a
    · subst y
      rw [if_pos rfl] at h2 ⊢
      simp at h1 h2 ⊢; omega
    · rw [if_neg y] at h2
      rw [if_neg (fun z => y z.symm)]
      simp at h1 h2 ⊢; omega
  · rw [if_neg x] at h1
    by_cases y : e = c
    · subst y
      rw [if_neg x]
      simp at h1 ⊢; omega
    · rw [if_neg y] at h2
      have z : ¬ a = e := by simp at h1 h2; omega
      rw [if_neg z]
      simp at h1 h2 ⊢; omega

theorem later_mono {ah al : Int} {size head n : Nat} {HI LO : Nat → Int} (hs : Sorted size head n HI LO) {i : Nat} (hi : later ah al size head HI LO i = true) : ∀ j, i ≤ j → j < n → later ah al size head HI LO j = true
  | 0, h1, _ => by
    have : i = 0 := by omega
    subst this; exact hi
  | j + 1, h1, h2 => by
    by_cases e : i = j + 1
    · subst e; exact hi
    · have ih := later_mono hs hi j (by omega) (by omega)
      exact lt2_trans ih (hs (j + 1) (by omega) h2)

/-- On a sorted log the place divides the entries. -/
theorem divides {ah al : Int} {size head n : Nat} {HI LO : Nat → Int} {r : Nat} (hs : Sorted size head n HI LO) (h : Bound ah al size head n HI LO r) (k : Nat) (hk : k < n) : later ah al size head HI LO k = decide (r ≤ k) := by
  by_cases hr : r ≤ k
  · rw [decide_eq_true hr]
    exact later_mono hs (h.2.2 (by omega)) k hr hk
  · rw [decide_eq_false hr]
    cases hx : later ah al size head HI LO k
    · rfl
    · have hle := h.1
      have h1 := later_mono hs hx (r - 1) (by omega) (by omega)
      have h2 := h.2.1 (by omega)
      rw [h1] at h2
      exact h2

/-- What zzSortedLog answers. -/
def RetSorted (size head n : Nat) (HI LO : Nat → Int) (e : Ending) : Prop := ∃ r, e = .returned (.bool r) ∧ (r = true → Sorted size head n HI LO)

set_option maxHeartbeats 1000000 in
theorem sorted_any (gh gl n c0 c1 head cnt : Nat) (HI LO : Nat → Int) (w : World) (hn : 0 < n) (hn2 : n ≤ 65536) (hd : head < n) (hcnt : cnt ≤ n)
    (hh : ∀ j, j < n → w.cell? ⟨gh, j, none⟩ = some (.int .u64 (HI j))) (hl : ∀ j, j < n → w.cell? ⟨gl, j, none⟩ = some (.int .u64 (LO j))) :
    Calls Try.prog 10 #[.slice (some ⟨gh, 0, none⟩) n c0, .slice (some ⟨gl, 0, none⟩) n c1, .int .i64 head, .int .i64 cnt] w fun e w' => RetSorted n head cnt HI LO e ∧ Below w.heap.size w w' := by
  have hgh := World.block_lt_of_cell? _ _ (hh 0 hn)
  have hgl := World.block_lt_of_cell? _ _ (hl 0 hn)
  have HC : Hid (_ ∧ _) := ⟨hh, hl⟩
  clear hh hl
  go_enter Try.func10, Try.ntmps10
  go_wp2
  go_loopw [10] (fun t wr => ∃ k : Nat, 1 ≤ k ∧ k ≤ max cnt 1 ∧ t = .int .i64 k ∧ Sorted n head k HI LO ∧ Below w.heap.size w wr) (fun t _ => cnt - (intOf t).toNat)
  case atStart => exact ⟨1, Nat.le_refl _, by omega, rfl, fun j h1 h2 => by omega, Below.refl _ _⟩
  case round =>
    obtain ⟨k, hk1, hk2, rfl, hS, hbel⟩ := hrel
    have HS : Hid _ := hS
    clear hS
    by_cases hlt : k < cnt
    · obtain ⟨p, hp⟩ : ∃ p, p = pl n head (k - 1) := ⟨_, rfl⟩
      obtain ⟨q, hq⟩ : ∃ q, q = pl n head k := ⟨_, rfl⟩
      have hpl : p < n := by rw [hp]; exact pl_lt hd (by omega)
      have hql : q < n := by rw [hq]; exact pl_lt hd (by omega)
      have ep : ((head : Int) + (k : Int) - 1) % (n : Int) = (p : Int) := by
        rw [hp, ← pl_mod hd (by omega)]; congr 1; omega
      have eq : ((head : Int) + (k : Int)) % (n : Int) = (q : Int) := by
        rw [hq, ← pl_mod hd (by omega)]
      have g0 : wr.cell? ⟨gh, p, none⟩ = some (.int .u64 (HI p)) := (hbel.cell (p := ⟨gh, p, none⟩) hgh).trans (HC.out.1 p hpl)
      have g1 : wr.cell? ⟨gl, p, none⟩ = some (.int .u64 (LO p)) := (hbel.cell (p := ⟨gl, p, none⟩) hgl).trans (HC.out.2 p hpl)
      have g2 : wr.cell? ⟨gh, q, none⟩ = some (.int .u64 (HI q)) := (hbel.cell (p := ⟨gh, q, none⟩) hgh).trans (HC.out.1 q hql)
      have g3 : wr.cell? ⟨gl, q, none⟩ = some (.int .u64 (LO q)) := (hbel.cell (p := ⟨gl, q, none⟩) hgl).trans (HC.out.2 q hql)
      have hpn : (p : Int) < (n : Int) := by omega
      have hqn : (q : Int) < (n : Int) := by omega
      have HP : Hid (_ ∧ _ ∧ _ ∧ _) := ⟨hp, hq, ep, eq⟩
      clear hp hq ep eq
      cases hx : lt2 (HI q) (LO q) (HI p) (LO p)
      · have A13 := zzless_any (HI q) (LO q) (HI p) (LO p)
        rw [hx] at A13
        have A : Hid (∀ W, Calls Try.prog 13 #[.int .u64 (HI q), .int .u64 (LO q), .int .u64 (HI p), .int .u64 (LO p)] W fun e w' => e = .returned (.bool false) ∧ W = w') := A13
        have HXX : Hid _ := hx
        clear A13 hx
        go_wp2_with fail
        rw [HP.out.2.2.1, HP.out.2.2.2]
        go_quiet ((go_at_call 13; exact Calls.quiet_of_same ((Hid.out A _).mono fun e w' h => ⟨h.1, h.2.symm⟩)))
        go_wp2_with fail
        go_roundw
        case rel => exact ⟨k + 1, by omega, by omega, by go_num, fun j h1 h2 => by
          by_cases e : j = k
          · subst e; rw [← HP.out.1, ← HP.out.2.1]; exact HXX.out
          · exact HS.out j h1 (by omega), below_drewN hbel _⟩
        case measure => simp [intOf]; omega
      · have A13 := zzless_any (HI q) (LO q) (HI p) (LO p)
        rw [hx] at A13
        have A : Hid (∀ W, Calls Try.prog 13 #[.int .u64 (HI q), .int .u64 (LO q), .int .u64 (HI p), .int .u64 (LO p)] W fun e w' => e = .returned (.bool true) ∧ W = w') := A13
        clear A13 hx
        go_wp2_with fail
        rw [HP.out.2.2.1, HP.out.2.2.2]
        go_quiet ((go_at_call 13; exact Calls.quiet_of_same ((Hid.out A _).mono fun e w' h => ⟨h.1, h.2.symm⟩)))
        go_wp2_with fail
        go_ret
        exact ⟨⟨_, rfl, fun h => by cases h⟩, below_drewN hbel _⟩
    · go_wp2
      go_ret
      exact ⟨⟨_, rfl, fun _ j h1 h2 => HS.out j h1 (by omega)⟩, hbel⟩

set_option maxHeartbeats 400000 in
theorem sorted_zero (a0 a1 : Option Addr) (c0 c1 : Nat) (head : Int) (w : World) :
    Calls Try.prog 10 #[.slice a0 0 c0, .slice a1 0 c1, .int .i64 head, .int .i64 0] w fun e w' => e = .returned (.bool true) ∧ w = w' := by
  go_enter Try.func10, Try.ntmps10
  go_wp2
  refine wp_loop_rounds 1 ?_
  rw [rounds_succ]
  go_wp2
  go_ret
  exact ⟨rfl, rfl⟩

set_option maxHeartbeats 1000000 in
theorem counts_ss (x0 x1 : Addr) (b0 o0 b1 o1 n0 c0 n1 c1 : Nat) (H0 H1 : Nat → Int) (head cnt ah al : Int) (w : World) (hn0 : n0 ≤ 9223372036854775807) (hn1 : n1 ≤ 9223372036854775807)
    (hx0 : 0 < n0 → x0 = ⟨b0, o0, none⟩) (hx1 : 0 < n1 → x1 = ⟨b1, o1, none⟩)
    (hc0 : ∀ j, j < n0 → w.cell? ⟨b0, o0 + j, none⟩ = some (.int .u64 (H0 j))) (hc1 : ∀ j, j < n1 → w.cell? ⟨b1, o1 + j, none⟩ = some (.int .u64 (H1 j)))
    (hh1 : -9223372036854775808 ≤ head) (hh2 : head ≤ 9223372036854775807) (hk1 : -9223372036854775808 ≤ cnt) (hk2 : cnt ≤ 9223372036854775807) :
    Calls Try.prog 3 #[.slice (some x0) n0 c0, .slice (some x1) n1 c1, .int .i64 head, .int .i64 cnt, .int .u64 ah, .int .u64 al] w fun e w' => e = .returned (.bool true) ∧ Below w.heap.size w w' := by
  have hne0 := fun wx => run_neq_slice_nil_any (P := Try.prog) wx 22 23 (some x0) n0 c0 0 0 Try.underlying22
  have hne1 := fun wx => run_neq_slice_nil_any (P := Try.prog) wx 22 23 (some x1) n1 c1 0 0 Try.underlying22
  go_enter Try.func3, Try.ntmps3
  go_wp2_with fail
  refine (bytes8 _ _ _ _ _ _ _ _ _ _ _ hn0 hn1).mono ?_
  rintro e w' ⟨⟨r, rfl⟩, rfl⟩
  cases r
  · go_wp2_with fail
    go_ret
    exact ⟨rfl, Below.refl _ _⟩
  by_cases hb0 : n0 ≤ 65536
  rotate_left
  · go_wp2_with fail
    go_ret
    exact ⟨rfl, Below.refl _ _⟩
  by_cases hb1 : n1 ≤ 65536
  rotate_left
  · go_wp2_with fail
    go_ret
    exact ⟨rfl, Below.refl _ _⟩
  have hmk0 := run_make_row' (P := Try.prog) 22 23 (.int .u64 0) 8 Try.underlying22 Try.info23 rfl .i64 .i64 n0 (by omega) (by omega)
  have hmk1 := run_make_row' (P := Try.prog) 22 23 (.int .u64 0) 8 Try.underlying22 Try.info23 rfl .i64 .i64 n1 (by omega) (by omega)
  have HX : Hid (_ ∧ _ ∧ _ ∧ _) := ⟨hx0, hx1, hc0, hc1⟩
  clear hx0 hx1 hc0 hc1
  go_upto_region 7 with fail
  go_wp2_with (refine wpList_copyrow rfl _ _ rfl x0 b0 o0 n0 c0 H0 w rfl rfl HX.out.1 HX.out.2.2.1 ?_; intro w1 hb1 hz1 hr1; refine Hid.out ?_)
  refine hide ?_
  have hcx1 : ∀ j, j < n1 → w1.cell? ⟨b1, o1 + j, none⟩ = some (.int .u64 (H1 j)) := fun j hj =>
    (hb1.cell (p := ⟨b1, o1 + j, none⟩) (World.block_lt_of_cell? _ _ (HX.out.2.2.2 j hj))).trans (HX.out.2.2.2 j hj)
  have HR : Hid (_ ∧ _) := ⟨hr1, hcx1⟩
  clear hr1 hcx1 hmk0
  go_upto_region 11 with fail
  go_wp2_with (refine wpList_copyrow rfl _ _ rfl x1 b1 o1 n1 c1 H1 w1 rfl rfl HX.out.2.1 HR.out.2 ?_; intro w2 hb2 hz2 hr2; refine Hid.out ?_)
  refine hide ?_
  have hr1' : ∀ j, j < n0 → w2.cell? ⟨w.heap.size, j, none⟩ = some (.int .u64 (H0 j)) := fun j hj =>
    (hb2.cell (p := ⟨w.heap.size, j, none⟩) hz1).trans (HR.out.1 j hj)
  have hbw : Below w.heap.size w w2 := hb1.trans (hb2.mono hb1.size)
  have HC : Hid (_ ∧ _) := ⟨hr1', hr2⟩
  clear HR HX hr1' hr2 hmk1 hne0 hne1 hb1 hb2
  by_cases hnn : n0 = n1
  rotate_left
  · have hnn' : ((n1 : Int) != (n0 : Int)) = true := by simp; omega
    go_wp2_with fail
    go_ret
    exact ⟨rfl, hbw⟩
  subst hnn
  by_cases hsh : Shape n0 head cnt
  rotate_left
  · have K9 : Hid (∀ W, Calls Try.prog 9 #[.int .i64 n0, .int .i64 head, .int .i64 cnt] W fun e w' => e = .returned (.bool false) ∧ W = w') := fun W => shape_no n0 head cnt W hsh
    clear hsh
    go_wp2_with (go_at_call 9; refine (Hid.out K9 _).mono ?_; rintro e w' ⟨rfl, rfl⟩)
    go_ret
    exact ⟨rfl, hbw⟩
  have K9 : Hid (∀ W, Calls Try.prog 9 #[.int .i64 n0, .int .i64 head, .int .i64 cnt] W fun e w' => e = .returned (.bool true) ∧ W = w') := fun W => shape_yes n0 head cnt W hsh
  obtain ⟨hs1, hs2, hs3⟩ := hsh
  by_cases hp : 0 < n0
  · obtain ⟨hd1, hd2⟩ := hs3 (by omega)
    obtain ⟨hd, rfl⟩ := Int.eq_ofNat_of_zero_le hd1
    obtain ⟨ct, rfl⟩ := Int.eq_ofNat_of_zero_le hs1
    clear hs3
    go_wp2_with (go_at_call 9; refine (Hid.out K9 _).mono ?_; rintro e w' ⟨rfl, rfl⟩)
    refine (sorted_any w.heap.size w1.heap.size n0 n0 n0 hd ct H0 H1 w2 hp hb0 (by omega) (by omega) HC.out.1 HC.out.2).mono ?_
    rintro e w3 ⟨⟨r, rfl, hS⟩, hb3⟩
    cases r
    · clear hS
      go_wp2_with fail
      go_ret
      exact ⟨rfl, hbw.trans (hb3.mono hbw.size)⟩
    have HS : Hid _ := hS rfl
    have hc30 : ∀ j, j < n0 → w3.cell? ⟨w.heap.size, j, none⟩ = some (.int .u64 (H0 j)) := fun j hj => (hb3.cell (p := ⟨w.heap.size, j, none⟩) (World.block_lt_of_cell? _ _ (HC.out.1 j hj))).trans (HC.out.1 j hj)
    have hc31 : ∀ j, j < n0 → w3.cell? ⟨w1.heap.size, j, none⟩ = some (.int .u64 (H1 j)) := fun j hj => (hb3.cell (p := ⟨w1.heap.size, j, none⟩) (World.block_lt_of_cell? _ _ (HC.out.2 j hj))).trans (HC.out.2 j hj)
    have hbw3 : Below w.heap.size w w3 := hbw.trans (hb3.mono hbw.size)
    have HC3 : Hid (_ ∧ _) := ⟨hc30, hc31⟩
    clear hS hc30 hc31 hb3 HC K9
    go_wp2_with fail
    refine (build_pos w.heap.size 0 w1.heap.size 0 n0 n0 n0 hd ct H0 H1 w3 hp hb0 (fun j hj => by rw [Nat.zero_add]; exact HC3.out.1 j hj) (fun j hj => by rw [Nat.zero_add]; exact HC3.out.2 j hj)).mono ?_
    rintro e w4 ⟨L, g, rfl, hLog, hb4⟩
    go_wp2_with fail
    refine (zzafter_any L g n0 hd ct H0 H1 ah al w4 hb0 (by omega) (by omega) hLog).mono ?_
    rintro e w5 ⟨r, hBd, rfl, hb5⟩
    have hr1 := hBd.1
    have hdv := divides HS.out hBd
    have hb35 : Below w3.heap.size w3 w5 := hb4.trans (hb5.mono hb4.size)
    have hbw5 : Below w.heap.size w w5 := hbw3.trans (hb35.mono hbw3.size)
    have hc0 : ∀ j, j < n0 → w5.cell? ⟨w.heap.size, j, none⟩ = some (.int .u64 (H0 j)) := fun j hj => (hb35.cell (p := ⟨w.heap.size, j, none⟩) (World.block_lt_of_cell? _ _ (HC3.out.1 j hj))).trans (HC3.out.1 j hj)
    have hc1 : ∀ j, j < n0 → w5.cell? ⟨w1.heap.size, j, none⟩ = some (.int .u64 (H1 j)) := fun j hj => (hb35.cell (p := ⟨w1.heap.size, j, none⟩) (World.block_lt_of_cell? _ _ (HC3.out.2 j hj))).trans (HC3.out.2 j hj)
    have HD : Hid (_ ∧ _ ∧ _) := ⟨hdv, hc0, hc1⟩
    clear hLog hb4 hb5 hb35 HC3 HS hBd hdv hc0 hc1
    go_wp2_with fail
    go_loopw [17, 18] (fun t i wr => ∃ k : Nat, k ≤ ct ∧ i = .int .i64 k ∧ t = .int .i64 ((min k r : Nat)) ∧ Below w5.heap.size w5 wr) (fun _ i _ => ct - (intOf i).toNat)
    case atStart => exact ⟨0, Nat.zero_le _, rfl, by simp, Below.refl _ _⟩
    case round =>
      obtain ⟨k, hk, rfl, rfl, hbel⟩ := hrel
      by_cases hlt : k < ct
      · obtain ⟨q, hq⟩ : ∃ q, q = pl n0 hd k := ⟨_, rfl⟩
        have hql : q < n0 := by rw [hq]; exact pl_lt (by omega) (by omega)
        have eq : ((hd : Int) + (k : Int)) % (n0 : Int) = (q : Int) := by
          rw [hq, ← pl_mod (by omega) (by omega)]
        have d0 := HD.out.2.1 q hql
        have d1 := HD.out.2.2 q hql
        have g0 : wr.cell? ⟨w.heap.size, q, none⟩ = some (.int .u64 (H0 q)) := (hbel.cell (p := ⟨w.heap.size, q, none⟩) (World.block_lt_of_cell? _ _ d0)).trans d0
        have g1 : wr.cell? ⟨w1.heap.size, q, none⟩ = some (.int .u64 (H1 q)) := (hbel.cell (p := ⟨w1.heap.size, q, none⟩) (World.block_lt_of_cell? _ _ d1)).trans d1
        have hqn : (q : Int) < (n0 : Int) := by omega
        have hlv : lt2 ah al (H0 q) (H1 q) = decide (r ≤ k) := by rw [hq]; exact HD.out.1 k hlt
        have A13 := zzless_any ah al (H0 q) (H1 q)
        rw [hlv] at A13
        have HE : Hid _ := eq
        clear eq hq hlv d0 d1
        by_cases hrk : r ≤ k
        · rw [decide_eq_true hrk] at A13
          have A : Hid (∀ W, Calls Try.prog 13 #[.int .u64 ah, .int .u64 al, .int .u64 (H0 q), .int .u64 (H1 q)] W fun e w' => e = .returned (.bool true) ∧ W = w') := A13
          clear A13
          rw [show min k r = r from by omega]
          go_wp2_with fail
          rw [HE.out]
          go_quiet ((go_at_call 13; exact Calls.quiet_of_same ((Hid.out A _).mono fun e w' h => ⟨h.1, h.2.symm⟩)))
          go_wp2_with fail
          go_roundw
          case rel => exact ⟨k + 1, by omega, by go_num, by rw [show min (k + 1) r = r from by omega], below_drewN hbel _⟩
          case measure => simp [intOf]; omega
        · rw [decide_eq_false hrk] at A13
          have A : Hid (∀ W, Calls Try.prog 13 #[.int .u64 ah, .int .u64 al, .int .u64 (H0 q), .int .u64 (H1 q)] W fun e w' => e = .returned (.bool false) ∧ W = w') := A13
          clear A13
          rw [show min k r = k from by omega]
          go_wp2_with fail
          rw [HE.out]
          go_quiet ((go_at_call 13; exact Calls.quiet_of_same ((Hid.out A _).mono fun e w' h => ⟨h.1, h.2.symm⟩)))
          go_wp2_with fail
          go_roundw
          case rel => exact ⟨k + 1, by omega, by go_num, by rw [show min (k + 1) r = k + 1 from by omega]; go_num, below_drewN hbel _⟩
          case measure => simp [intOf]; omega
      · rw [show min k r = r from by omega]
        go_wp2_with fail
        go_ret
        exact ⟨rfl, hbw5.trans (hbel.mono hbw5.size)⟩
  · obtain rfl : n0 = 0 := by omega
    obtain rfl : cnt = 0 := by omega
    go_wp2_with (go_at_call 9; refine (Hid.out K9 _).mono ?_; rintro e w' ⟨rfl, rfl⟩)
    refine (sorted_zero _ _ 0 0 head w2).mono ?_
    rintro e w' ⟨rfl, rfl⟩
    go_wp2_with fail
    refine (build_zero _ _ 0 0 head w2).mono ?_
    rintro e w3 ⟨L, rfl, hc2, hb3⟩
    go_wp2_with fail
    refine (zzafter_zero L ah al w3 hc2).mono ?_
    rintro e w4 ⟨rfl, hb4⟩
    clear K9 HC
    go_wp2_with fail
    refine wp_loop_rounds 1 ?_
    rw [rounds_succ]
    go_wp2_with fail
    go_ret
    exact ⟨rfl, hbw.trans ((hb3.trans (hb4.mono hb3.size)).mono hbw.size)⟩

set_option maxHeartbeats 1000000 in
theorem counts_nn (head cnt ah al : Int) (w : World) :
    Calls Try.prog 3 #[.slice none 0 0, .slice none 0 0, .int .i64 head, .int .i64 cnt, .int .u64 ah, .int .u64 al] w fun e w' => e = .returned (.bool true) ∧ Below w.heap.size w w' := by
  have hne0 := fun wx => run_neq_slice_nil_any (P := Try.prog) wx 22 23 none 0 0 0 0 Try.underlying22
  have hne1 := fun wx => run_neq_slice_nil_any (P := Try.prog) wx 22 23 none 0 0 0 0 Try.underlying22
  go_enter Try.func3, Try.ntmps3
  go_wp2_with fail
  refine (bytes8 _ _ _ _ _ _ _ _ _ _ _ (by omega) (by omega)).mono ?_
  rintro e w' ⟨⟨r, rfl⟩, rfl⟩
  cases r
  · go_wp2_with fail
    go_ret
    exact ⟨rfl, Below.refl _ _⟩
  have hbw := Below.refl w.heap.size w
  by_cases hsh : Shape 0 head cnt
  rotate_left
  · have K9 : Hid (∀ W, Calls Try.prog 9 #[.int .i64 0, .int .i64 head, .int .i64 cnt] W fun e w' => e = .returned (.bool false) ∧ W = w') := fun W => shape_no 0 head cnt W hsh
    clear hsh
    go_wp2_with (go_at_call 9; refine (Hid.out K9 _).mono ?_; rintro e w' ⟨rfl, rfl⟩)
    go_ret
    exact ⟨rfl, hbw⟩
  have K9 : Hid (∀ W, Calls Try.prog 9 #[.int .i64 0, .int .i64 head, .int .i64 cnt] W fun e w' => e = .returned (.bool true) ∧ W = w') := fun W => shape_yes 0 head cnt W hsh
  obtain ⟨hs1, hs2, hs3⟩ := hsh
  obtain rfl : cnt = 0 := by omega
  clear hs3
  go_wp2_with (go_at_call 9; refine (Hid.out K9 _).mono ?_; rintro e w' ⟨rfl, rfl⟩)
  refine (sorted_zero _ _ 0 0 head w).mono ?_
  rintro e w' ⟨rfl, rfl⟩
  go_wp2_with fail
  refine (build_zero _ _ 0 0 head w).mono ?_
  rintro e w3 ⟨L, rfl, hc2, hb3⟩
  go_wp2_with fail
  refine (zzafter_zero L ah al w3 hc2).mono ?_
  rintro e w4 ⟨rfl, hb4⟩
  clear K9
  go_wp2_with fail
  refine wp_loop_rounds 1 ?_
  rw [rounds_succ]
  go_wp2_with fail
  go_ret
  exact ⟨rfl, hbw.trans ((hb3.trans (hb4.mono hb3.size)).mono hbw.size)⟩

set_option maxHeartbeats 1000000 in
theorem counts_ns (x1 : Addr) (b1 o1 n1 c1 : Nat) (H1 : Nat → Int) (head cnt ah al : Int) (w : World) (hn1 : n1 ≤ 9223372036854775807) (hx1 : 0 < n1 → x1 = ⟨b1, o1, none⟩) (hc1 : ∀ j, j < n1 → w.cell? ⟨b1, o1 + j, none⟩ = some (.int .u64 (H1 j))) :
    Calls Try.prog 3 #[.slice none 0 0, .slice (some x1) n1 c1, .int .i64 head, .int .i64 cnt, .int .u64 ah, .int .u64 al] w fun e w' => e = .returned (.bool true) ∧ Below w.heap.size w w' := by
  have hne0 := fun wx => run_neq_slice_nil_any (P := Try.prog) wx 22 23 none 0 0 0 0 Try.underlying22
  have hne1 := fun wx => run_neq_slice_nil_any (P := Try.prog) wx 22 23 (some x1) n1 c1 0 0 Try.underlying22
  go_enter Try.func3, Try.ntmps3
  go_wp2_with fail
  refine (bytes8 _ _ _ _ _ _ _ _ _ _ _ (by omega) hn1).mono ?_
  rintro e w' ⟨⟨r, rfl⟩, rfl⟩
  cases r
  · go_wp2_with fail
    go_ret
    exact ⟨rfl, Below.refl _ _⟩
  by_cases hb1 : n1 ≤ 65536
  rotate_left
  · go_wp2_with fail
    go_ret
    exact ⟨rfl, Below.refl _ _⟩
  have hmk1 := run_make_row' (P := Try.prog) 22 23 (.int .u64 0) 8 Try.underlying22 Try.info23 rfl .i64 .i64 n1 (by omega) (by omega)
  have HX1 : Hid (_ ∧ _) := ⟨hx1, hc1⟩
  clear hx1 hc1
  go_upto_region 11 with fail
  go_wp2_with (refine wpList_copyrow rfl _ _ rfl x1 b1 o1 n1 c1 H1 w rfl rfl HX1.out.1 HX1.out.2 ?_; intro w2 hbw hz1 hr1; refine Hid.out ?_)
  refine hide ?_
  clear hmk1 hr1 HX1
  by_cases hnn : n1 = 0
  rotate_left
  · have hnn' : ((n1 : Int) != 0) = true := by simp; omega
    go_wp2_with fail
    go_ret
    exact ⟨rfl, hbw⟩
  subst hnn
  by_cases hsh : Shape 0 head cnt
  rotate_left
  · have K9 : Hid (∀ W, Calls Try.prog 9 #[.int .i64 0, .int .i64 head, .int .i64 cnt] W fun e w' => e = .returned (.bool false) ∧ W = w') := fun W => shape_no 0 head cnt W hsh
    clear hsh
    go_wp2_with (go_at_call 9; refine (Hid.out K9 _).mono ?_; rintro e w' ⟨rfl, rfl⟩)
    go_ret
    exact ⟨rfl, hbw⟩
  have K9 : Hid (∀ W, Calls Try.prog 9 #[.int .i64 0, .int .i64 head, .int .i64 cnt] W fun e w' => e = .returned (.bool true) ∧ W = w') := fun W => shape_yes 0 head cnt W hsh
  obtain ⟨hs1, hs2, hs3⟩ := hsh
  obtain rfl : cnt = 0 := by omega
  clear hs3
  go_wp2_with (go_at_call 9; refine (Hid.out K9 _).mono ?_; rintro e w' ⟨rfl, rfl⟩)
  refine (sorted_zero _ _ 0 0 head w2).mono ?_
  rintro e w' ⟨rfl, rfl⟩
  go_wp2_with fail
  refine (build_zero _ _ 0 0 head w2).mono ?_
  rintro e w3 ⟨L, rfl, hc2, hb3⟩
  go_wp2_with fail
  refine (zzafter_zero L ah al w3 hc2).mono ?_
  rintro e w4 ⟨rfl, hb4⟩
  clear K9
  go_wp2_with fail
  refine wp_loop_rounds 1 ?_
  rw [rounds_succ]
  go_wp2_with fail
  go_ret
  exact ⟨rfl, hbw.trans ((hb3.trans (hb4.mono hb3.size)).mono hbw.size)⟩

set_option maxHeartbeats 1000000 in
theorem counts_sn (x0 : Addr) (b0 o0 n0 c0 : Nat) (H0 : Nat → Int) (head cnt ah al : Int) (w : World) (hn0 : n0 ≤ 9223372036854775807) (hx0 : 0 < n0 → x0 = ⟨b0, o0, none⟩) (hc0 : ∀ j, j < n0 → w.cell? ⟨b0, o0 + j, none⟩ = some (.int .u64 (H0 j))) :
    Calls Try.prog 3 #[.slice (some x0) n0 c0, .slice none 0 0, .int .i64 head, .int .i64 cnt, .int .u64 ah, .int .u64 al] w fun e w' => e = .returned (.bool true) ∧ Below w.heap.size w w' := by
  have hne0 := fun wx => run_neq_slice_nil_any (P := Try.prog) wx 22 23 (some x0) n0 c0 0 0 Try.underlying22
  have hne1 := fun wx => run_neq_slice_nil_any (P := Try.prog) wx 22 23 none 0 0 0 0 Try.underlying22
  go_enter Try.func3, Try.ntmps3
  go_wp2_with fail
  refine (bytes8 _ _ _ _ _ _ _ _ _ _ _ hn0 (by omega)).mono ?_
  rintro e w' ⟨⟨r, rfl⟩, rfl⟩
  cases r
  · go_wp2_with fail
    go_ret
    exact ⟨rfl, Below.refl _ _⟩
  by_cases hb0 : n0 ≤ 65536
  rotate_left
  · go_wp2_with fail
    go_ret
    exact ⟨rfl, Below.refl _ _⟩
  have hmk0 := run_make_row' (P := Try.prog) 22 23 (.int .u64 0) 8 Try.underlying22 Try.info23 rfl .i64 .i64 n0 (by omega) (by omega)
  have HX0 : Hid (_ ∧ _) := ⟨hx0, hc0⟩
  clear hx0 hc0
  go_upto_region 7 with fail
  go_wp2_with (refine wpList_copyrow rfl _ _ rfl x0 b0 o0 n0 c0 H0 w rfl rfl HX0.out.1 HX0.out.2 ?_; intro w2 hbw hz1 hr1; refine Hid.out ?_)
  refine hide ?_
  clear hmk0 hr1 HX0
  by_cases hnn : n0 = 0
  rotate_left
  · have hnn' : ((0 : Int) != (n0 : Int)) = true := by simp; omega
    go_wp2_with fail
    go_ret
    exact ⟨rfl, hbw⟩
  subst hnn
  by_cases hsh : Shape 0 head cnt
  rotate_left
  · have K9 : Hid (∀ W, Calls Try.prog 9 #[.int .i64 0, .int .i64 head, .int .i64 cnt] W fun e w' => e = .returned (.bool false) ∧ W = w') := fun W => shape_no 0 head cnt W hsh
    clear hsh
    go_wp2_with (go_at_call 9; refine (Hid.out K9 _).mono ?_; rintro e w' ⟨rfl, rfl⟩)
    go_ret
    exact ⟨rfl, hbw⟩
  have K9 : Hid (∀ W, Calls Try.prog 9 #[.int .i64 0, .int .i64 head, .int .i64 cnt] W fun e w' => e = .returned (.bool true) ∧ W = w') := fun W => shape_yes 0 head cnt W hsh
  obtain ⟨hs1, hs2, hs3⟩ := hsh
  obtain rfl : cnt = 0 := by omega
  clear hs3
  go_wp2_with (go_at_call 9; refine (Hid.out K9 _).mono ?_; rintro e w' ⟨rfl, rfl⟩)
  refine (sorted_zero _ _ 0 0 head w2).mono ?_
  rintro e w' ⟨rfl, rfl⟩
  go_wp2_with fail
  refine (build_zero _ _ 0 0 head w2).mono ?_
  rintro e w3 ⟨L, rfl, hc2, hb3⟩
  go_wp2_with fail
  refine (zzafter_zero L ah al w3 hc2).mono ?_
  rintro e w4 ⟨rfl, hb4⟩
  clear K9
  go_wp2_with fail
  refine wp_loop_rounds 1 ?_
  rw [rounds_succ]
  go_wp2_with fail
  go_ret
  exact ⟨rfl, hbw.trans ((hb3.trans (hb4.mono hb3.size)).mono hbw.size)⟩
end Go.Proofs.Qxb6601511a
