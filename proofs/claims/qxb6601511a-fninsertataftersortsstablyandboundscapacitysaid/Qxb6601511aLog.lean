import Derived.Test.Qxb6601511aRows
import Derived.WalkKit
import Derived.WalkSpells
import Derived.WalkLawsBesides
import Derived.Deep.OwnRows
import Derived.Deep.QuietTactic
import Derived.BigQuiet
import Derived.Deep.RegionWith
namespace Go.Proofs.Qxb6601511a
open Go.RowKit

/-- The order of two instants, each two words. -/
def lt2 (ah al bh bl : Int) : Bool := if ah = bh then decide (al < bl) else decide (ah < bh)

set_option maxHeartbeats 400000 in
theorem zzless_any (ah al bh bl : Int) (w : World) : Calls Try.prog 13 #[.int .u64 ah, .int .u64 al, .int .u64 bh, .int .u64 bl] w fun e w' => e = .returned (.bool (lt2 ah al bh bl)) ∧ w = w' := by
  unfold lt2
  by_cases h : ah = bh
  · subst h
    rw [if_pos rfl]
    go_enter Try.func13, Try.ntmps13
    go_wp2
    go_ret
    exact ⟨rfl, rfl⟩
  · rw [if_neg h]
    have h' : (ah != bh) = true := by simp [h]
    go_enter Try.func13, Try.ntmps13
    go_wp2
    go_ret
    exact ⟨rfl, rfl⟩

set_option maxHeartbeats 400000 in
theorem less_any (ah al bh bl : Int) (w : World) : Calls Try.prog 34 #[.agg #[.int .u64 ah, .int .u64 al], .agg #[.int .u64 bh, .int .u64 bl]] w fun e w' => e = .returned (.bool (lt2 ah al bh bl)) ∧ Below w.heap.size w w' := by
  unfold lt2
  by_cases h : ah = bh
  · subst h
    rw [if_pos rfl]
    go_enter Try.func34, Try.ntmps34
    go_wp2
    go_ret
    exact ⟨rfl, ((Below.refl _ _).alloc (Nat.le_refl _) _).alloc (by simp) _⟩
  · rw [if_neg h]
    have h' : (ah == bh) = false := by simp [h]
    by_cases hlt : ah < bh
    · go_enter Try.func34, Try.ntmps34
      go_wp2
      go_ret
      exact ⟨by simp [hlt], ((Below.refl _ _).alloc (Nat.le_refl _) _).alloc (by simp) _⟩
    · go_enter Try.func34, Try.ntmps34
      go_wp2
      go_ret
      exact ⟨by simp [hlt], ((Below.refl _ _).alloc (Nat.le_refl _) _).alloc (by simp) _⟩

/-- The place of entry i. -/
def pl (size head i : Nat) : Nat := if head + i < size then head + i else head + i - size

theorem pl_lt {size head i : Nat} (h1 : head < size) (h2 : i < size) : pl size head i < size := by
  unfold pl; split <;> omega

set_option maxHeartbeats 400000 in
theorem at_any (L g size head i : Nat) (w : World) (hs : size ≤ 65536) (h1 : head < size) (h2 : i < size)
    (c0 : w.cell? ⟨L, 0, none⟩ = some (.slice (some ⟨g, 0, none⟩) size size)) (c1 : w.cell? ⟨L, 1, none⟩ = some (.int .i64 head)) :
    Calls Try.prog 32 #[.pointer (some ⟨L, 0, none⟩), .int .i64 i] w fun e w' => e = .returned (.pointer (some ⟨g, pl size head i * 4, none⟩)) ∧ w = w' := by
  unfold pl
  by_cases h : head + i < size
  · rw [if_pos h]
    go_enter Try.func32, Try.ntmps32
    go_wp2
    go_ret
    exact ⟨rfl, rfl⟩
  · rw [if_neg h]
    go_enter Try.func32, Try.ntmps32
    go_wp2
    go_ret
    exact ⟨rfl, rfl⟩

/-- A log in memory: the struct at block L, its places at block g. -/
structure Log (w : World) (L g size head n : Nat) (HI LO : Nat → Int) : Prop where
  c0 : w.cell? ⟨L, 0, none⟩ = some (.slice (some ⟨g, 0, none⟩) size size)
  c1 : w.cell? ⟨L, 1, none⟩ = some (.int .i64 head)
  c2 : w.cell? ⟨L, 2, none⟩ = some (.int .i64 n)
  hi : ∀ j, j < size → w.cell? ⟨g, j * 4, none⟩ = some (.int .u64 (HI j))
  lo : ∀ j, j < size → w.cell? ⟨g, j * 4 + 1, none⟩ = some (.int .u64 (LO j))

theorem Log.on {w w' : World} {L g size head n : Nat} {HI LO : Nat → Int} (h : Log w L g size head n HI LO) (hb : Below w.heap.size w w') (hs : 0 < size) : Log w' L g size head n HI LO := by
  have hL := World.block_lt_of_cell? _ _ h.c0
  have hg := World.block_lt_of_cell? _ _ (h.hi 0 hs)
  exact ⟨(hb.cell (p := ⟨L, 0, none⟩) hL).trans h.c0, (hb.cell (p := ⟨L, 1, none⟩) hL).trans h.c1, (hb.cell (p := ⟨L, 2, none⟩) hL).trans h.c2,
    fun j hj => (hb.cell (p := ⟨g, j * 4, none⟩) hg).trans (h.hi j hj), fun j hj => (hb.cell (p := ⟨g, j * 4 + 1, none⟩) hg).trans (h.lo j hj)⟩

/-- Is entry i later than the instant (ah, al)? -/
def later (ah al : Int) (size head : Nat) (HI LO : Nat → Int) (i : Nat) : Bool := lt2 ah al (HI (pl size head i)) (LO (pl size head i))

/-- What after(at) answers: its left neighbour is not later, its own entry is. -/
def Bound (ah al : Int) (size head n : Nat) (HI LO : Nat → Int) (r : Nat) : Prop :=
  r ≤ n ∧ (0 < r → later ah al size head HI LO (r - 1) = false) ∧ (r < n → later ah al size head HI LO r = true)

set_option maxHeartbeats 400000 in
theorem after_zero (L : Nat) (ah al : Int) (w : World) (c2 : w.cell? ⟨L, 2, none⟩ = some (.int .i64 0)) :
    Calls Try.prog 30 #[.pointer (some ⟨L, 0, none⟩), .agg #[.int .u64 ah, .int .u64 al]] w fun e w' => e = .returned (.int .i64 0) ∧ Below w.heap.size w w' := by
  have hL := World.block_lt_of_cell? _ _ c2
  have c2' : ∀ o, (w.alloc o).cell? ⟨L, 2, none⟩ = some (.int .i64 0) := fun o => (((Below.refl w.heap.size w).alloc (Nat.le_refl _) o).cell (p := ⟨L, 2, none⟩) hL).trans c2
  go_enter Try.func30, Try.ntmps30
  go_wp2
  go_quiet (fail)
  go_wp2
  refine wp_loop_rounds 1 ?_
  rw [rounds_succ]
  go_wp2
  go_ret
  exact ⟨rfl, below_drewN ((Below.refl _ _).alloc (Nat.le_refl _) _) _⟩

set_option maxHeartbeats 400000 in
theorem after_any (L g size head n : Nat) (HI LO : Nat → Int) (ah al : Int) (w : World) (hs : size ≤ 65536) (h1 : head < size) (hn : n ≤ size) (hlog : Log w L g size head n HI LO) :
    Calls Try.prog 30 #[.pointer (some ⟨L, 0, none⟩), .agg #[.int .u64 ah, .int .u64 al]] w fun e w' => ∃ r, Bound ah al size head n HI LO r ∧ e = .returned (.int .i64 (r : Nat)) ∧ Below w.heap.size w w' := by
  have hL := World.block_lt_of_cell? _ _ hlog.c0
  have c2' : ∀ o, (w.alloc o).cell? ⟨L, 2, none⟩ = some (.int .i64 n) := fun o => (((Below.refl w.heap.size w).alloc (Nat.le_refl _) o).cell (p := ⟨L, 2, none⟩) hL).trans hlog.c2
  have HLG : Hid _ := hlog
  clear hlog
  go_enter Try.func30, Try.ntmps30
  go_wp2
  go_quiet (fail)
  go_wp2
  go_loopw [5, 6] (fun a b wr => ∃ lo hi : Nat, lo ≤ hi ∧ hi ≤ n ∧ a = .int .i64 lo ∧ b = .int .i64 hi ∧ (0 < lo → later ah al size head HI LO (lo - 1) = false) ∧ (hi < n → later ah al size head HI LO hi = true) ∧ Below w.heap.size w wr ∧ wr.cell? ⟨w.heap.size, 0, none⟩ = some (.int .u64 ah) ∧ wr.cell? ⟨w.heap.size, 1, none⟩ = some (.int .u64 al)) (fun a b _ => (intOf b).toNat - (intOf a).toNat)
  case atStart => exact ⟨0, n, Nat.zero_le _, Nat.le_refl _, rfl, rfl, fun h => by omega, fun h => by omega, below_drewN ((Below.refl _ _).alloc (Nat.le_refl _) _) _, by simp, by simp⟩
  case round =>
    obtain ⟨lo, hi, hlh, hhn, rfl, rfl, hlo, hhi, hbel, b0, b1⟩ := hrel
    by_cases hlt : lo < hi
    · have LG := HLG.out.on hbel (by omega)
      obtain ⟨mid, hm⟩ : ∃ mid, mid = (lo + hi) / 2 := ⟨_, rfl⟩
      have hm1 : lo ≤ mid := by omega
      have hm2 : mid < hi := by omega
      have hmid : ((lo : Int) + (hi : Int)) / 2 = ((mid : Nat) : Int) := by omega
      obtain ⟨q, hq⟩ : ∃ q, q = pl size head mid := ⟨_, rfl⟩
      have hql : q < size := by rw [hq]; exact pl_lt h1 (by omega)
      have H32 := at_any L g size head mid wr.drew hs h1 (by omega) LG.c0 LG.c1
      rw [← hq] at H32
      have K32 : Hid (Calls Try.prog 32 #[.pointer (some ⟨L, 0, none⟩), .int .i64 mid] wr.drew fun e w' => e = .returned (.pointer (some ⟨g, q * 4, none⟩)) ∧ wr.drew = w') := H32
      have e0 := LG.hi q hql
      have e1 := LG.lo q hql
      have HE : Hid (_ ∧ _ ∧ _) := ⟨hq, hlo, hhi⟩
      clear hm hq H32 hlo hhi LG
      have hBw := World.block_lt_of_cell? _ _ b0
      cases hx : lt2 ah al (HI q) (LO q)
      · have H34 := less_any ah al (HI q) (LO q)
        rw [hx] at H34
        have K34 : Hid (∀ W, Calls Try.prog 34 #[.agg #[.int .u64 ah, .int .u64 al], .agg #[.int .u64 (HI q), .int .u64 (LO q)]] W fun e w' => e = .returned (.bool false) ∧ Below W.heap.size W w') := H34
        have HX : Hid _ := hx
        clear H34 hx
        go_wp2_with fail
        go_region_with (first | (go_at_call 32; refine (Hid.out K32).mono ?_; rintro e w' ⟨rfl, rfl⟩) | (go_at_call 34; refine (Hid.out K34 _).mono ?_; rintro e w2 ⟨rfl, hb2⟩))
        all_goals go_wp2
        all_goals
          go_roundw
          case rel => exact ⟨mid + 1, hi, by omega, by omega, by go_num, rfl, fun _ => by rw [show mid + 1 - 1 = mid from by omega, later, ← HE.out.1]; exact HX.out, HE.out.2.2, hbel.drew.trans (hb2.mono hbel.size), (hb2.cell (p := ⟨w.heap.size, 0, none⟩) hBw).trans b0, (hb2.cell (p := ⟨w.heap.size, 1, none⟩) hBw).trans b1⟩
          case measure => simp [intOf]; omega
      · have H34 := less_any ah al (HI q) (LO q)
        rw [hx] at H34
        have K34 : Hid (∀ W, Calls Try.prog 34 #[.agg #[.int .u64 ah, .int .u64 al], .agg #[.int .u64 (HI q), .int .u64 (LO q)]] W fun e w' => e = .returned (.bool true) ∧ Below W.heap.size W w') := H34
        have HX : Hid _ := hx
        clear H34 hx
        go_wp2_with fail
        go_region_with (first | (go_at_call 32; refine (Hid.out K32).mono ?_; rintro e w' ⟨rfl, rfl⟩) | (go_at_call 34; refine (Hid.out K34 _).mono ?_; rintro e w2 ⟨rfl, hb2⟩))
        all_goals go_wp2
        all_goals
          go_roundw
          case rel => exact ⟨lo, mid, by omega, by omega, rfl, by go_num, HE.out.2.1, fun _ => by rw [later, ← HE.out.1]; exact HX.out, hbel.drew.trans (hb2.mono hbel.size), (hb2.cell (p := ⟨w.heap.size, 0, none⟩) hBw).trans b0, (hb2.cell (p := ⟨w.heap.size, 1, none⟩) hBw).trans b1⟩
          case measure => simp [intOf]; omega
    · go_wp2
      go_ret
      exact ⟨lo, ⟨by omega, hlo, fun h => by have := hhi (by omega); rwa [show lo = hi from by omega]⟩, rfl, hbel⟩
end Go.Proofs.Qxb6601511a
