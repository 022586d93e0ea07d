import Derived.Test.Qxb6601511aRing
import Derived.Deep.Cut
namespace Go.Proofs.Qxb6601511a
open Go.RowKit

/-- Four cells stored one behind the other. -/
def put4 (w : World) (g k : Nat) (e : Ent) : World := (((w.setCell ⟨g, k * 4, none⟩ (.int .u64 e.h)).setCell ⟨g, k * 4 + 1, none⟩ (.int .u64 e.l)).setCell ⟨g, k * 4 + 2, none⟩ (.int .i64 e.m)).setCell ⟨g, k * 4 + 3, none⟩ (.int .u64 e.s)

theorem put4_other (w : World) (g k : Nat) (e : Ent) (x o : Nat) (hx : x ≠ g) : (put4 w g k e).cell? ⟨x, o, none⟩ = w.cell? ⟨x, o, none⟩ := by
  have hne : ∀ o2, (⟨x, o, none⟩ : Addr) ≠ ⟨g, o2, none⟩ := fun o2 h => hx (by simpa using congrArg Addr.block h)
  unfold put4
  rw [World.cell?_setCell_other _ _ _ _ (hne _).symm, World.cell?_setCell_other _ _ _ _ (hne _).symm, World.cell?_setCell_other _ _ _ _ (hne _).symm, World.cell?_setCell_other _ _ _ _ (hne _).symm]

theorem put4_below {B : Nat} {v w : World} (h : Below B v w) (g k : Nat) (e : Ent) (hg : B ≤ g) : Below B v (put4 w g k e) :=
  (((h.setCell (p := ⟨g, k * 4, none⟩) hg _).setCell (p := ⟨g, k * 4 + 1, none⟩) hg _).setCell (p := ⟨g, k * 4 + 2, none⟩) hg _).setCell (p := ⟨g, k * 4 + 3, none⟩) hg _

theorem Ring.set {w : World} {B L : Nat} {a : Option Addr} {g size n : Nat} {E : Nat → Ent} (h : Ring w B L a g size n E) (k : Nat) (e : Ent) : Ring (put4 w g k e) B L a g size n (putE E k e) :=
  ⟨(put4_other w g k e L 0 h.ne).trans h.c0, (put4_other w g k e L 1 h.ne).trans h.c1, (put4_other w g k e L 2 h.ne).trans h.c2, h.ha, h.ne, h.bL, h.bg, fun hs => (h.row hs).set k e, fun o => by simp only [put4, World.frozen?_setCell]; exact h.fz o⟩

theorem putE_same (E : Nat → Ent) (k : Nat) (e : Ent) : putE E k e k = e := if_pos rfl
theorem putE_ne (E : Nat → Ent) {k j : Nat} (e : Ent) (h : j ≠ k) : putE E k e j = E j := if_neg h

theorem Ring.drew {w : World} {B L : Nat} {a : Option Addr} {g size n : Nat} {E : Nat → Ent} (h : Ring w B L a g size n E) : Ring w.drew B L a g size n E :=
  ⟨h.c0, h.c1, h.c2, h.ha, h.ne, h.bL, h.bg, fun hs => (h.row hs).drew, h.fz⟩

theorem Ring.bump {w : World} {B L : Nat} {a : Option Addr} {g size n : Nat} {E : Nat → Ent} (h : Ring w B L a g size n E) : Ring (w.setCell ⟨L, 2, none⟩ (.int .i64 ((n : Int) + 1))) B L a g size (n + 1) E :=
  ⟨(World.cell?_setCell_other _ _ _ _ (by simp)).trans h.c0, (World.cell?_setCell_other _ _ _ _ (by simp)).trans h.c1, World.cell?_setCell_same _ _ _ h.c2, h.ha, h.ne, h.bL, h.bg, fun hs => (h.row hs).other (fun e => h.ne e.symm) _, fun o => (World.frozen?_setCell _ _ _ _).trans (h.fz o)⟩

set_option maxHeartbeats 2000000 in
theorem insert_any (B L : Nat) (a : Option Addr) (g size n i : Nat) (E : Nat → Ent) (eh el em es limit : Int) (w : World) (hs : size ≤ 16384) (hi : i ≤ n) (hcap : Cap limit n size) (h : Ring w B L a g size n E) :
    Calls Try.prog 31 #[.pointer (some ⟨L, 0, none⟩), .int .i64 i, .agg #[.int .u64 eh, .int .u64 el, .int .i64 em, .int .u64 es], .int .i64 limit] w fun e w' =>
      e = .returned (.tuple #[]) ∧ ∃ a' g' size' E', Ring w' B L a' g' size' (n + 1) E' ∧ Cap limit (n + 1) size' ∧ Ins E E' i n ⟨eh, el, em, es⟩ ∧ Below B w w' := by
  have hL := h.lt
  have hR : ∀ o, Ring (w.alloc o) B L a g size n E := fun o => h.after ((Below.refl _ _).alloc (Nat.le_refl _) o)
  have c0 := fun o => (hR o).c0
  have c1 := fun o => (hR o).c1
  have c2 := fun o => (hR o).c2
  have HH : Hid (_ ∧ _) := ⟨h, hR⟩
  clear h hR
  have hcase : n < size ∨ (¬ n < size ∧ (n : Int) < limit) ∨ (¬ n < size ∧ ¬ (n : Int) < limit) := by omega
  rcases hcase with hlt | ⟨hlt, hl⟩ | ⟨hlt, hl⟩
  case' inl =>
    have hne : ((n : Int) == (size : Int)) = false := by simp; omega
    go_enter Try.func31, Try.ntmps31
    go_wp2
    go_quiet (fail)
    obtain ⟨W, hw1⟩ : ∃ W, W = (w.alloc (.cells #[.int .u64 eh, .int .u64 el, .int .i64 em, .int .u64 es] 61)).drewN nq := ⟨_, rfl⟩
    have hb1 : Below w.heap.size w W := by rw [hw1]; exact below_drewN ((Below.refl _ _).alloc (Nat.le_refl _) _) _
    have x0 : W.cell? ⟨w.heap.size, 0, none⟩ = some (.int .u64 eh) := by rw [hw1]; simp
    have x1 : W.cell? ⟨w.heap.size, 1, none⟩ = some (.int .u64 el) := by rw [hw1]; simp
    have x2 : W.cell? ⟨w.heap.size, 2, none⟩ = some (.int .i64 em) := by rw [hw1]; simp
    have x3 : W.cell? ⟨w.heap.size, 3, none⟩ = some (.int .u64 es) := by rw [hw1]; simp
    have hr1 : Ring W B L a g size n E := HH.out.1.after hb1
    rw [← hw1]
    have hgx : w.heap.size ≠ g := by have := (HH.out.1.row (by omega)).lt; omega
    have hbW : Below B w W := hb1.mono (Nat.le_of_lt (Nat.lt_of_le_of_lt hr1.bL hL))
    obtain ⟨G, M, EE, hRW, hGx, hEE, hM, hM2, hcapM, k2⟩ : ∃ G M EE, Ring W B L (some ⟨G, 0, none⟩) G M n EE ∧ w.heap.size ≠ G ∧ (∀ j, j < n → EE j = E j) ∧ n < M ∧ M ≤ 65536 ∧ Cap limit (n + 1) M ∧ W.cell? ⟨L, 2, none⟩ = some (.int .i64 n) :=
      ⟨g, size, E, by have := hr1.ha (by omega); rwa [this] at hr1, hgx, fun _ _ => rfl, hlt, by omega, ⟨hlt, fun h => hcap.c2 (by omega), by have := hcap.c3; omega⟩, hr1.c2⟩
    clear c0 c1 c2 HH hw1 hr1 hgx hcap hne hb1 hlt
  case' inr.inl =>
    obtain rfl : n = size := by have := hcap.c1; omega
    obtain ⟨y, hy⟩ : ∃ y : Int, (if 2 * (n : Int) < 1 then 1 else 2 * (n : Int)) = y := ⟨_, rfl⟩
    have hy1 : (n : Int) < y ∧ (y ≤ 1 ∨ y ≤ 2 * (n : Int)) := by split at hy <;> omega
    obtain ⟨M, hMe, hM, hM2, hcapM⟩ : ∃ M : Nat, (if limit < y then limit else y) = (M : Int) ∧ n < M ∧ M ≤ 65536 ∧ Cap limit (n + 1) M := by
      obtain ⟨x, hx⟩ : ∃ x : Int, (if limit < y then limit else y) = x := ⟨_, rfl⟩
      have hx1 : (n : Int) < x ∧ x ≤ limit ∧ (x ≤ 1 ∨ x ≤ 2 * (n : Int)) := by split at hx <;> omega
      obtain ⟨M, hM⟩ := Int.eq_ofNat_of_zero_le (show 0 ≤ x by omega)
      exact ⟨M, by rw [hx]; exact hM, by omega, by omega, ⟨by omega, fun _ => by omega, by omega⟩⟩
    clear hy1
    go_enter Try.func31, Try.ntmps31
    go_wp2
    go_quiet (fail)
    go_upto_region 5 with fail
    obtain ⟨W1, hw1⟩ : ∃ W, W = (w.alloc (.cells #[.int .u64 eh, .int .u64 el, .int .i64 em, .int .u64 es] 61)).drewN nq := ⟨_, rfl⟩
    have hb1 : Below w.heap.size w W1 := by rw [hw1]; exact below_drewN ((Below.refl _ _).alloc (Nat.le_refl _) _) _
    have x0 : W1.cell? ⟨w.heap.size, 0, none⟩ = some (.int .u64 eh) := by rw [hw1]; simp
    have x1 : W1.cell? ⟨w.heap.size, 1, none⟩ = some (.int .u64 el) := by rw [hw1]; simp
    have x2 : W1.cell? ⟨w.heap.size, 2, none⟩ = some (.int .i64 em) := by rw [hw1]; simp
    have x3 : W1.cell? ⟨w.heap.size, 3, none⟩ = some (.int .u64 es) := by rw [hw1]; simp
    have hr1 : Ring W1 B L a g n n E := HH.out.1.after hb1
    rw [← hw1]
    have hL1 := hr1.lt
    have hx1 := World.block_lt_of_cell? _ _ x0
    have k2 : ∀ o, (W1.alloc o).cell? ⟨L, 2, none⟩ = some (.int .i64 n) := fun o => (((Below.refl W1.heap.size W1).alloc (Nat.le_refl _) o).cell (p := ⟨L, 2, none⟩) hL1).trans hr1.c2
    have hBL := hr1.bL
    have HX : Hid (_ ∧ _ ∧ _ ∧ _ ∧ _ ∧ _) := ⟨x0, x1, x2, x3, hr1, hb1⟩
    clear c0 c1 c2 HH hw1 hr1 hb1 x0 x1 x2 x3 hcap
    clear hMe hy
    have hmk := run_make_any (P := Try.prog) 59 61 _ 4 32 Try.underlying59 Try.info61 .i64 .i64 M (by omega) (by omega)
    go_wp2
    go_loopw [44] (fun t wr => ∃ (k : Nat) (E3 : Nat → Ent), k ≤ n ∧ t = .int .i64 k ∧ Below W1.heap.size W1 wr ∧ RowE wr W1.heap.size M E3 ∧ ∀ j, j < k → E3 j = E j) (fun t _ => n - (intOf t).toNat)
    case atStart =>
      obtain ⟨E3, h3⟩ := RowE.made W1 M
      exact ⟨0, E3, Nat.zero_le _, rfl, (Below.refl _ _).alloc (Nat.le_refl _) _, h3, fun j hj => by omega⟩
    case' round =>
      clear k2 hmk
      obtain ⟨k, E3, hk, rfl, hbel, hrow, hE3⟩ := hrel
      have hr : Ring wr B L a g n n E := HX.out.2.2.2.2.1.after hbel
      have k0 := hr.c0
      have k1 := hr.c1
      have k2 := hr.c2
      by_cases hkn : k < n
      · obtain rfl := hr.ha (by omega)
        obtain ⟨e0, e1, e2, e3⟩ := (hr.row (by omega)).cells hkn
        obtain ⟨d0, d1, d2, d3⟩ := hrow.cells (j := k) (by omega)
        obtain ⟨f, hf, hfv⟩ := hrow
        have r0 := hf.frozen (k * 4)
        have r1 := hf.frozen (k * 4 + 1)
        have r2 := hf.frozen (k * 4 + 2)
        have r3 := hf.frozen (k * 4 + 3)
        have HR : Hid (RowE wr W1.heap.size M E3 ∧ _) := ⟨⟨f, hf, hfv⟩, hE3⟩
        clear hf hfv hE3 hr
        go_wp2_with fail
        refine (at_i L g n k _ wr rfl (by omega) (by omega) k0 k1).mono ?_
        rintro e w' ⟨rfl, rfl⟩
        go_wp2_with fail
        go_roundw
        case rel =>
          refine ⟨k + 1, putE E3 k (E k), by omega, by go_num, put4_below hbel W1.heap.size k (E k) (Nat.le_refl _), HR.out.1.set k (E k), fun j hj => ?_⟩
          by_cases e : j = k
          · subst e
            exact putE_same _ _ _
          · rw [putE_ne _ _ e]; exact HR.out.2 j (by omega)
        case measure => simp [intOf]; omega
      have hnk : n = k := by omega
      subst hnk
      have z0 := hr.fz 0
      have z1 := hr.fz 1
      have hbw : Below B w wr := (HX.out.2.2.2.2.2.mono (by omega)).trans (hbel.mono (by omega))
      have x0 := (hbel.cell (p := ⟨w.heap.size, 0, none⟩) hx1).trans HX.out.1
      have x1 := (hbel.cell (p := ⟨w.heap.size, 1, none⟩) hx1).trans HX.out.2.1
      have x2 := (hbel.cell (p := ⟨w.heap.size, 2, none⟩) hx1).trans HX.out.2.2.1
      have x3 := (hbel.cell (p := ⟨w.heap.size, 3, none⟩) hx1).trans HX.out.2.2.2.1
      have HR : Hid (_ ∧ _ ∧ _ ∧ _ ∧ _ ∧ _ ∧ _) := ⟨hr, hrow, hE3, x0, x1, x2, x3⟩
      clear hr hrow hE3 x0 x1 x2 x3 HX
      go_upto_region 12 with fail
      obtain ⟨W, hW⟩ : ∃ W, W = (wr.setCell ⟨L, 0, none⟩ (.slice (some ⟨W1.heap.size, 0, none⟩) M M)).setCell ⟨L, 1, none⟩ (.int .i64 0) := ⟨_, rfl⟩
      rw [← hW]
      have hbW : Below B w W := by rw [hW]; exact (hbw.setCell (p := ⟨L, 0, none⟩) hBL _).setCell (p := ⟨L, 1, none⟩) hBL _
      have hcl : ∀ x o, x ≠ L → W.cell? ⟨x, o, none⟩ = wr.cell? ⟨x, o, none⟩ := fun x o hx => by
        rw [hW, World.cell?_setCell_other _ _ _ _ (fun e => hx (by simpa using congrArg Addr.block e.symm)), World.cell?_setCell_other _ _ _ _ (fun e => hx (by simpa using congrArg Addr.block e.symm))]
      have x0 := (hcl w.heap.size 0 (by omega)).trans HR.out.2.2.2.1
      have x1 := (hcl w.heap.size 1 (by omega)).trans HR.out.2.2.2.2.1
      have x2 := (hcl w.heap.size 2 (by omega)).trans HR.out.2.2.2.2.2.1
      have x3 := (hcl w.heap.size 3 (by omega)).trans HR.out.2.2.2.2.2.2
      have hRW0 : Ring W B L (some ⟨W1.heap.size, 0, none⟩) W1.heap.size M n E3 := by
        rw [hW]
        exact ⟨(World.cell?_setCell_other _ _ _ _ (by simp)).trans (World.cell?_setCell_same _ _ _ k0), World.cell?_setCell_same _ _ _ ((World.cell?_setCell_other _ _ _ _ (by simp)).trans k1),
          (World.cell?_setCell_other _ _ _ _ (by simp)).trans ((World.cell?_setCell_other _ _ _ _ (by simp)).trans k2), fun _ => rfl, by omega, hBL, by omega,
          fun _ => (HR.out.2.1.other (a := ⟨L, 0, none⟩) (by show W1.heap.size ≠ L; omega) _).other (a := ⟨L, 1, none⟩) (by show W1.heap.size ≠ L; omega) _, fun o => by rw [World.frozen?_setCell, World.frozen?_setCell]; exact HR.out.1.fz o⟩
      obtain ⟨G, EE, hRW, hGx, hEE, k2⟩ : ∃ G EE, Ring W B L (some ⟨G, 0, none⟩) G M n EE ∧ w.heap.size ≠ G ∧ (∀ j, j < n → EE j = E j) ∧ W.cell? ⟨L, 2, none⟩ = some (.int .i64 n) :=
        ⟨W1.heap.size, E3, hRW0, by omega, HR.out.2.2.1, hRW0.c2⟩
      clear hRW0 HR hW hcl hbel hbw z0 z1 k0 k1
  case' inr.inr =>
    obtain rfl : n = size := by have := hcap.c1; omega
    obtain ⟨M, hMe, hM, hM2, hcapM⟩ : ∃ M : Nat, (if 2 * (n : Int) < 1 then 1 else 2 * (n : Int)) = (M : Int) ∧ n < M ∧ M ≤ 65536 ∧ Cap limit (n + 1) M := by
      obtain ⟨x, hx⟩ : ∃ x : Int, x = (if 2 * (n : Int) < 1 then 1 else 2 * (n : Int)) := ⟨_, rfl⟩
      have hx1 : (n : Int) < x ∧ (x ≤ 1 ∨ x ≤ 2 * (n : Int)) := by split at hx <;> omega
      obtain ⟨M, hM⟩ := Int.eq_ofNat_of_zero_le (show 0 ≤ x by omega)
      exact ⟨M, by rw [← hx]; exact hM, by omega, by omega, ⟨by omega, fun _ => by omega, by omega⟩⟩
    go_enter Try.func31, Try.ntmps31
    go_wp2
    go_quiet (fail)
    go_upto_region 5 with fail
    obtain ⟨W1, hw1⟩ : ∃ W, W = (w.alloc (.cells #[.int .u64 eh, .int .u64 el, .int .i64 em, .int .u64 es] 61)).drewN nq := ⟨_, rfl⟩
    have hb1 : Below w.heap.size w W1 := by rw [hw1]; exact below_drewN ((Below.refl _ _).alloc (Nat.le_refl _) _) _
    have x0 : W1.cell? ⟨w.heap.size, 0, none⟩ = some (.int .u64 eh) := by rw [hw1]; simp
    have x1 : W1.cell? ⟨w.heap.size, 1, none⟩ = some (.int .u64 el) := by rw [hw1]; simp
    have x2 : W1.cell? ⟨w.heap.size, 2, none⟩ = some (.int .i64 em) := by rw [hw1]; simp
    have x3 : W1.cell? ⟨w.heap.size, 3, none⟩ = some (.int .u64 es) := by rw [hw1]; simp
    have hr1 : Ring W1 B L a g n n E := HH.out.1.after hb1
    rw [← hw1]
    have hL1 := hr1.lt
    have hx1 := World.block_lt_of_cell? _ _ x0
    have k2 : ∀ o, (W1.alloc o).cell? ⟨L, 2, none⟩ = some (.int .i64 n) := fun o => (((Below.refl W1.heap.size W1).alloc (Nat.le_refl _) o).cell (p := ⟨L, 2, none⟩) hL1).trans hr1.c2
    have hBL := hr1.bL
    have HX : Hid (_ ∧ _ ∧ _ ∧ _ ∧ _ ∧ _) := ⟨x0, x1, x2, x3, hr1, hb1⟩
    clear c0 c1 c2 HH hw1 hr1 hb1 x0 x1 x2 x3 hcap
    clear hMe
    have hmk := run_make_any (P := Try.prog) 59 61 _ 4 32 Try.underlying59 Try.info61 .i64 .i64 M (by omega) (by omega)
    go_wp2
    go_loopw [44] (fun t wr => ∃ (k : Nat) (E3 : Nat → Ent), k ≤ n ∧ t = .int .i64 k ∧ Below W1.heap.size W1 wr ∧ RowE wr W1.heap.size M E3 ∧ ∀ j, j < k → E3 j = E j) (fun t _ => n - (intOf t).toNat)
    case atStart =>
      obtain ⟨E3, h3⟩ := RowE.made W1 M
      exact ⟨0, E3, Nat.zero_le _, rfl, (Below.refl _ _).alloc (Nat.le_refl _) _, h3, fun j hj => by omega⟩
    case' round =>
      clear k2 hmk
      obtain ⟨k, E3, hk, rfl, hbel, hrow, hE3⟩ := hrel
      have hr : Ring wr B L a g n n E := HX.out.2.2.2.2.1.after hbel
      have k0 := hr.c0
      have k1 := hr.c1
      have k2 := hr.c2
      by_cases hkn : k < n
      · obtain rfl := hr.ha (by omega)
        obtain ⟨e0, e1, e2, e3⟩ := (hr.row (by omega)).cells hkn
        obtain ⟨d0, d1, d2, d3⟩ := hrow.cells (j := k) (by omega)
        obtain ⟨f, hf, hfv⟩ := hrow
        have r0 := hf.frozen (k * 4)
        have r1 := hf.frozen (k * 4 + 1)
        have r2 := hf.frozen (k * 4 + 2)
        have r3 := hf.frozen (k * 4 + 3)
        have HR : Hid (RowE wr W1.heap.size M E3 ∧ _) := ⟨⟨f, hf, hfv⟩, hE3⟩
        clear hf hfv hE3 hr
        go_wp2_with fail
        refine (at_i L g n k _ wr rfl (by omega) (by omega) k0 k1).mono ?_
        rintro e w' ⟨rfl, rfl⟩
        go_wp2_with fail
        go_roundw
        case rel =>
          refine ⟨k + 1, putE E3 k (E k), by omega, by go_num, put4_below hbel W1.heap.size k (E k) (Nat.le_refl _), HR.out.1.set k (E k), fun j hj => ?_⟩
          by_cases e : j = k
          · subst e
            exact putE_same _ _ _
          · rw [putE_ne _ _ e]; exact HR.out.2 j (by omega)
        case measure => simp [intOf]; omega
      have hnk : n = k := by omega
      subst hnk
      have z0 := hr.fz 0
      have z1 := hr.fz 1
      have hbw : Below B w wr := (HX.out.2.2.2.2.2.mono (by omega)).trans (hbel.mono (by omega))
      have x0 := (hbel.cell (p := ⟨w.heap.size, 0, none⟩) hx1).trans HX.out.1
      have x1 := (hbel.cell (p := ⟨w.heap.size, 1, none⟩) hx1).trans HX.out.2.1
      have x2 := (hbel.cell (p := ⟨w.heap.size, 2, none⟩) hx1).trans HX.out.2.2.1
      have x3 := (hbel.cell (p := ⟨w.heap.size, 3, none⟩) hx1).trans HX.out.2.2.2.1
      have HR : Hid (_ ∧ _ ∧ _ ∧ _ ∧ _ ∧ _ ∧ _) := ⟨hr, hrow, hE3, x0, x1, x2, x3⟩
      clear hr hrow hE3 x0 x1 x2 x3 HX
      go_upto_region 12 with fail
      obtain ⟨W, hW⟩ : ∃ W, W = (wr.setCell ⟨L, 0, none⟩ (.slice (some ⟨W1.heap.size, 0, none⟩) M M)).setCell ⟨L, 1, none⟩ (.int .i64 0) := ⟨_, rfl⟩
      rw [← hW]
      have hbW : Below B w W := by rw [hW]; exact (hbw.setCell (p := ⟨L, 0, none⟩) hBL _).setCell (p := ⟨L, 1, none⟩) hBL _
      have hcl : ∀ x o, x ≠ L → W.cell? ⟨x, o, none⟩ = wr.cell? ⟨x, o, none⟩ := fun x o hx => by
        rw [hW, World.cell?_setCell_other _ _ _ _ (fun e => hx (by simpa using congrArg Addr.block e.symm)), World.cell?_setCell_other _ _ _ _ (fun e => hx (by simpa using congrArg Addr.block e.symm))]
      have x0 := (hcl w.heap.size 0 (by omega)).trans HR.out.2.2.2.1
      have x1 := (hcl w.heap.size 1 (by omega)).trans HR.out.2.2.2.2.1
      have x2 := (hcl w.heap.size 2 (by omega)).trans HR.out.2.2.2.2.2.1
      have x3 := (hcl w.heap.size 3 (by omega)).trans HR.out.2.2.2.2.2.2
      have hRW0 : Ring W B L (some ⟨W1.heap.size, 0, none⟩) W1.heap.size M n E3 := by
        rw [hW]
        exact ⟨(World.cell?_setCell_other _ _ _ _ (by simp)).trans (World.cell?_setCell_same _ _ _ k0), World.cell?_setCell_same _ _ _ ((World.cell?_setCell_other _ _ _ _ (by simp)).trans k1),
          (World.cell?_setCell_other _ _ _ _ (by simp)).trans ((World.cell?_setCell_other _ _ _ _ (by simp)).trans k2), fun _ => rfl, by omega, hBL, by omega,
          fun _ => (HR.out.2.1.other (a := ⟨L, 0, none⟩) (by show W1.heap.size ≠ L; omega) _).other (a := ⟨L, 1, none⟩) (by show W1.heap.size ≠ L; omega) _, fun o => by rw [World.frozen?_setCell, World.frozen?_setCell]; exact HR.out.1.fz o⟩
      obtain ⟨G, EE, hRW, hGx, hEE, k2⟩ : ∃ G EE, Ring W B L (some ⟨G, 0, none⟩) G M n EE ∧ w.heap.size ≠ G ∧ (∀ j, j < n → EE j = E j) ∧ W.cell? ⟨L, 2, none⟩ = some (.int .i64 n) :=
        ⟨W1.heap.size, E3, hRW0, by omega, HR.out.2.2.1, hRW0.c2⟩
      clear hRW0 HR hW hcl hbel hbw z0 z1 k0 k1
  all_goals
    go_wp2
    go_loopw [11] (fun t wr => ∃ (k : Nat) (E2 : Nat → Ent), i ≤ k ∧ k ≤ n ∧ t = .int .i64 k ∧ Ring wr B L (some ⟨G, 0, none⟩) G M n E2 ∧ (∀ j, j < k → E2 j = EE j) ∧ (∀ j, k < j → j ≤ n → E2 j = EE (j - 1)) ∧ Below B w wr ∧ wr.cell? ⟨w.heap.size, 0, none⟩ = some (.int .u64 eh) ∧ wr.cell? ⟨w.heap.size, 1, none⟩ = some (.int .u64 el) ∧ wr.cell? ⟨w.heap.size, 2, none⟩ = some (.int .i64 em) ∧ wr.cell? ⟨w.heap.size, 3, none⟩ = some (.int .u64 es)) (fun t _ => (intOf t).toNat - i)
    case atStart => exact ⟨n, EE, hi, Nat.le_refl _, rfl, hRW, fun _ _ => rfl, fun j h1 h2 => by omega, hbW, x0, x1, x2, x3⟩
    case round =>
      clear x0 x1 x2 x3 hRW k2 hbW
      obtain ⟨k, E2, hk1, hk2, rfl, hr, hE1, hE2, hbel, x0, x1, x2, x3⟩ := hrel
      have k0 := hr.c0
      have k1 := hr.c1
      have k2 := hr.c2
      have hrow := hr.row (by omega)
      have HR : Hid (_ ∧ _ ∧ _) := ⟨hr, hE1, hE2⟩
      obtain ⟨d0, d1, d2, d3⟩ := hrow.cells (j := k) (by omega)
      obtain ⟨f, hf, hfv⟩ := hrow
      have r0 := hf.frozen (k * 4)
      have r1 := hf.frozen (k * 4 + 1)
      have r2 := hf.frozen (k * 4 + 2)
      have r3 := hf.frozen (k * 4 + 3)
      have hrow : RowE wr G M E2 := ⟨f, hf, hfv⟩
      clear hr hE1 hE2 hf hfv
      by_cases hik : i < k
      · obtain ⟨q, hq⟩ : ∃ q, q + 1 = k := ⟨k - 1, by omega⟩
        obtain ⟨e0, e1, e2, e3⟩ := hrow.cells (j := q) (by omega)
        clear hrow
        go_wp2_with fail
        refine (at_i L G M k _ wr rfl (by omega) (by omega) k0 k1).mono ?_
        rintro e w' ⟨rfl, rfl⟩
        go_wp2_with fail
        refine (at_i L G M q _ wr (by omega) (by omega) (by omega) k0 k1).mono ?_
        rintro e w' ⟨rfl, rfl⟩
        go_wp2_with fail
        go_roundw
        case rel =>
          refine ⟨q, putE E2 k (E2 q), by omega, by omega, by rw [← hq]; go_num, HR.out.1.set k (E2 q), fun j hj => ?_, fun j h1 h2 => ?_, put4_below hbel G k (E2 q) HR.out.1.bg, (put4_other wr G k (E2 q) _ _ hGx).trans x0, (put4_other wr G k (E2 q) _ _ hGx).trans x1, (put4_other wr G k (E2 q) _ _ hGx).trans x2, (put4_other wr G k (E2 q) _ _ hGx).trans x3⟩
          · rw [putE_ne _ _ (by omega)]; exact HR.out.2.1 j (by omega)
          · by_cases e : j = k
            · subst e
              rw [putE_same, show j - 1 = q from by omega]; exact HR.out.2.1 q (by omega)
            · rw [putE_ne _ _ e]; exact HR.out.2.2 j (by omega) h2
        case measure => simp [intOf]; omega
      · obtain rfl : i = k := by omega
        clear hrow
        have K32 : Hid (Calls Try.prog 32 #[.pointer (some ⟨L, 0, none⟩), .int .i64 i] wr.drew fun e w' => e = .returned (.pointer (some ⟨G, i * 4, none⟩)) ∧ wr.drew = w') := at_i L G M i _ wr.drew rfl (by omega) (by omega) k0 k1
        go_wp2_with fail
        go_region_with (go_at_call 32; refine (Hid.out K32).mono ?_; rintro e w' ⟨rfl, rfl⟩)
        all_goals
          generalize hW3 : ((((wr.setCell ⟨G, i * 4, none⟩ (.int .u64 eh)).setCell ⟨G, i * 4 + 1, none⟩ (.int .u64 el)).setCell ⟨G, i * 4 + 2, none⟩ (.int .i64 em)).setCell ⟨G, i * 4 + 3, none⟩ (.int .u64 es)).drew = W3
          have hR3 : Ring W3 B L (some ⟨G, 0, none⟩) G M n (putE E2 i ⟨eh, el, em, es⟩) := by rw [← hW3]; exact (HR.out.1.set i ⟨eh, el, em, es⟩).drew
          have hb3 : Below B w W3 := by rw [← hW3]; exact (put4_below hbel G i ⟨eh, el, em, es⟩ HR.out.1.bg).drew
          have z2 := hR3.c2
          have z3 := hR3.fz 2
          have HR3 : Hid _ := hR3
          clear hW3 k0 k1 k2 x0 x1 x2 x3 d0 d1 d2 d3 r0 r1 r2 r3 hR3
          go_wp2
          go_end0
          refine ⟨rfl, _, G, M, _, HR3.out.bump, hcapM, ⟨fun j hj => ?_, putE_same _ _ _, fun j h1 h2 => ?_⟩, hb3.setCell (p := ⟨L, 2, none⟩) HR3.out.bL _⟩
          · rw [putE_ne _ _ (by omega), HR.out.2.1 j hj, hEE j (by omega)]
          · rw [putE_ne _ _ (by omega), HR.out.2.2 j h1 h2, hEE _ (by omega)]
end Go.Proofs.Qxb6601511a
