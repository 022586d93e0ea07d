import Derived.Test.Qxb6601360aRows
import Derived.WalkKit
import Derived.WalkSpells
import Derived.WalkLawsBesides
import Derived.Deep.QuietTactic
import Derived.BigQuiet
import Derived.Deep.OwnRows
namespace Go.Proofs.Qxb6601360a
open Go.RowKit

theorem Try.info26 : (Try.prog.info? 26).map (fun i => (i.zero, i.size, i.bytes)) = some (some (.agg #[.int .i64 0, .string ByteArray.empty]), 2, 24) := by kernel_rfl
theorem Try.info32 : (Try.prog.info? 32).map (fun i => (i.zero, i.size, i.bytes)) = some (some (.agg #[.int .i64 0, .string ByteArray.empty]), 2, 24) := by kernel_rfl

theorem run_make_any {P : Program} (t e : TypeId) (z : Value) (sz bytes : Nat) (ht : P.underlying t = some (.slice e)) (hinfo : (P.info? e).map (fun i => (i.zero, i.size, i.bytes)) = some (some z, sz, bytes))
    (kl kc : IntKind) (n : Nat) (hbytes : bytes * n ≤ 281474976710656) (h63 : n ≤ 9223372036854775807) (w : World) :
    (Instr.makeSlice t (.int kl (n : Int)) (.int kc (n : Int))).run P w = .ok (.slice (some ⟨w.heap.size, 0, none⟩) n n) (w.alloc (.cells (madeCells z.cells (n * sz)) e)) := by
  obtain ⟨i, hi, hzz⟩ := Option.map_eq_some_iff.1 hinfo
  simp only [Prod.mk.injEq] at hzz
  obtain ⟨hz, hs, hb⟩ := hzz
  have hb' : (i.bytes : Int) * (n : Int) ≤ 281474976710656 := by
    have h : ((i.bytes * n : Nat) : Int) ≤ 281474976710656 := by rw [hb]; omega
    rwa [Int.natCast_mul] at h
  have hr := run_make (P := P) w t e i z ht hi hz kl kc n n (by omega) (Int.le_refl _) hb' (by omega)
  simp only [Int.toNat_natCast, hs] at hr
  exact hr

/-- A cell of the copied row. -/
def cv (C : Nat → Int) (T : Nat → ByteArray) (j : Nat) : Value := if j % 2 = 0 then .int .i64 (C (j / 2)) else .string (T (j / 2))

/-- The copied row with k elements in. -/
def cvTo (C : Nat → Int) (T : Nat → ByteArray) (k j : Nat) : Value := if j < k * 2 then cv C T j else if j % 2 = 0 then .int .i64 0 else .string ByteArray.empty

theorem made_row (w : World) (n t : Nat) (C : Nat → Int) (T : Nat → ByteArray) :
    (w.alloc (.cells (madeCells (Value.agg #[.int .i64 0, .string ByteArray.empty]).cells (n * 2)) t)).rowIs w.heap.size t (n * 2) (cvTo C T 0) := by
  refine ⟨_, Deep.blk_alloc_new _ _, size_madeCells _ _, fun i hi => ?_⟩
  have hc : (Value.agg #[.int .i64 0, .string ByteArray.empty]).cells = #[.int .i64 0, .string ByteArray.empty] := rfl
  have h2 : i % 2 = 0 ∨ i % 2 = 1 := by omega
  rcases h2 with h | h <;> simp [madeCells, hc, hi, cvTo, h]

theorem row_step {w : World} {B t n k : Nat} {C : Nat → Int} {T : Nat → ByteArray} (h : w.rowIs B t n (cvTo C T k)) :
    ((w.setCell ⟨B, k * 2, none⟩ (.int .i64 (C k))).setCell ⟨B, k * 2 + 1, none⟩ (.string (T k))).drew.rowIs B t n (cvTo C T (k + 1)) := by
  refine ((((h.set (k * 2) _).set (k * 2 + 1) _).congr fun j _ => ?_)).drew
  unfold cvTo cv
  by_cases e1 : j = k * 2 + 1
  · subst e1
    have a : (k * 2 + 1) % 2 = 1 := by omega
    have b : (k * 2 + 1) / 2 = k := by omega
    have c : k * 2 + 1 < (k + 1) * 2 := by omega
    simp [a, b, c]
  · rw [if_neg e1]
    by_cases e0 : j = k * 2
    · subst e0
      have a : (k * 2) % 2 = 0 := by omega
      have b : (k * 2) / 2 = k := by omega
      have c : k * 2 < (k + 1) * 2 := by omega
      simp [b, c]
    · rw [if_neg e0]
      by_cases hlt : j < k * 2
      · rw [if_pos hlt, if_pos (show j < (k + 1) * 2 by omega)]
      · rw [if_neg hlt, if_neg (show ¬ j < (k + 1) * 2 by omega)]

theorem row_done {w : World} {B t n : Nat} {C : Nat → Int} {T : Nat → ByteArray} (h : w.rowIs B t (n * 2) (cvTo C T n)) : w.rowIs B t (n * 2) (cv C T) :=
  h.congr fun j hj => by rw [cvTo, if_pos hj]

set_option maxHeartbeats 400000 in
theorem clone_any (b off len cap : Nat) (C : Nat → Int) (T : Nat → ByteArray) (w : World) (hl : len ≤ 65536)
    (hc0 : ∀ k, k < len → w.cell? ⟨b, off + k * 2, none⟩ = some (.int .i64 (C k)))
    (hc1 : ∀ k, k < len → w.cell? ⟨b, off + k * 2 + 1, none⟩ = some (.string (T k))) :
    Calls Try.prog 7 #[.slice (some ⟨b, off, none⟩) len cap] w fun e w' => e = .returned (.slice (some ⟨w.heap.size, 0, none⟩) len len) ∧ Below w.heap.size w w' ∧ w'.rowIs w.heap.size 26 (len * 2) (cv C T) := by
  have hmk := run_make_any (P := Try.prog) 22 26 _ 2 24 Try.underlying22 Try.info26 .i64 .i64 len (by omega) (by omega)
  have hnil := fun wx => Lib.run_eql_slice_nil (P := Try.prog) wx 22 26 (some ⟨b, off, none⟩) len cap 0 0 Try.underlying22
  have hb : 0 < len → b < w.heap.size := fun h => World.block_lt_of_cell? _ _ (hc0 0 h)
  go_enter Try.func7, Try.ntmps7
  go_wp2
  go_loopw [4] (fun t wr => ∃ k : Nat, k ≤ len ∧ t = .int .i64 k ∧ Below w.heap.size w wr ∧ wr.rowIs w.heap.size 26 (len * 2) (cvTo C T k)) (fun t _ => len - (intOf t).toNat)
  case atStart => exact ⟨0, Nat.zero_le _, rfl, (Below.refl _ _).alloc (Nat.le_refl _) _, made_row w len 26 C T⟩
  case round =>
    obtain ⟨k, hk, rfl, hbel, hrow⟩ := hrel
    clear hmk hnil
    by_cases hlt : k < len
    · have g0 : wr.cell? ⟨b, off + k * 2, none⟩ = some (.int .i64 (C k)) := (hbel.cell (p := ⟨b, off + k * 2, none⟩) (hb (by omega))).trans (hc0 k hlt)
      have g1 : wr.cell? ⟨b, off + k * 2 + 1, none⟩ = some (.string (T k)) := (hbel.cell (p := ⟨b, off + k * 2 + 1, none⟩) (hb (by omega))).trans (hc1 k hlt)
      have g2 := hrow.cell (i := k * 2) (by omega)
      have g3 := hrow.cell (i := k * 2 + 1) (by omega)
      have g4 := hrow.frozen (k * 2)
      have g5 := hrow.frozen (k * 2 + 1)
      have hrow' := row_step hrow
      have hbel' := ((hbel.setCell (p := ⟨w.heap.size, k * 2, none⟩) (Nat.le_refl _) (.int .i64 (C k))).setCell (p := ⟨w.heap.size, k * 2 + 1, none⟩) (Nat.le_refl _) (.string (T k))).drew
      have R : Hid (_ ∧ _) := ⟨hbel', hrow'⟩
      clear hc0 hc1 hrow hbel hrow' hbel'
      go_wp2
      go_region
      all_goals go_wp2
      all_goals go_roundw
      case rel => exact ⟨k + 1, by omega, by go_num, R.out.1, R.out.2⟩
      case measure => simp [intOf]; omega
    · have e : k = len := by omega
      subst e
      go_wp2
      go_ret
      exact ⟨rfl, hbel, row_done hrow⟩
set_option maxHeartbeats 400000 in
theorem tocells_any (b off len cap : Nat) (C : Nat → Int) (T : Nat → ByteArray) (w : World) (hl : len ≤ 65536)
    (hc0 : ∀ k, k < len → w.cell? ⟨b, off + k * 2, none⟩ = some (.int .i64 (C k)))
    (hc1 : ∀ k, k < len → w.cell? ⟨b, off + k * 2 + 1, none⟩ = some (.string (T k))) :
    Calls Try.prog 8 #[.slice (some ⟨b, off, none⟩) len cap] w fun e w' => e = .returned (.slice (some ⟨w.heap.size, 0, none⟩) len len) ∧ Below w.heap.size w w' ∧ w'.rowIs w.heap.size 32 (len * 2) (cv C T) := by
  have hmk := run_make_any (P := Try.prog) 28 32 _ 2 24 Try.underlying28 Try.info32 .i64 .i64 len (by omega) (by omega)
  have hnil := fun wx => Lib.run_eql_slice_nil (P := Try.prog) wx 22 26 (some ⟨b, off, none⟩) len cap 0 0 Try.underlying22
  have hb : 0 < len → b < w.heap.size := fun h => World.block_lt_of_cell? _ _ (hc0 0 h)
  go_enter Try.func8, Try.ntmps8
  go_wp2
  go_loopw [4] (fun t wr => ∃ k : Nat, k ≤ len ∧ t = .int .i64 k ∧ Below w.heap.size w wr ∧ wr.rowIs w.heap.size 32 (len * 2) (cvTo C T k)) (fun t _ => len - (intOf t).toNat)
  case atStart => exact ⟨0, Nat.zero_le _, rfl, (Below.refl _ _).alloc (Nat.le_refl _) _, made_row w len 32 C T⟩
  case round =>
    obtain ⟨k, hk, rfl, hbel, hrow⟩ := hrel
    clear hmk hnil
    by_cases hlt : k < len
    · have g0 : wr.cell? ⟨b, off + k * 2, none⟩ = some (.int .i64 (C k)) := (hbel.cell (p := ⟨b, off + k * 2, none⟩) (hb (by omega))).trans (hc0 k hlt)
      have g1 : wr.cell? ⟨b, off + k * 2 + 1, none⟩ = some (.string (T k)) := (hbel.cell (p := ⟨b, off + k * 2 + 1, none⟩) (hb (by omega))).trans (hc1 k hlt)
      have g2 := hrow.cell (i := k * 2) (by omega)
      have g3 := hrow.cell (i := k * 2 + 1) (by omega)
      have g4 := hrow.frozen (k * 2)
      have g5 := hrow.frozen (k * 2 + 1)
      have hrow' := row_step hrow
      have hbel' := ((hbel.setCell (p := ⟨w.heap.size, k * 2, none⟩) (Nat.le_refl _) (.int .i64 (C k))).setCell (p := ⟨w.heap.size, k * 2 + 1, none⟩) (Nat.le_refl _) (.string (T k))).drew
      have R : Hid (_ ∧ _) := ⟨hbel', hrow'⟩
      clear hc0 hc1 hrow hbel hrow' hbel'
      go_wp2
      go_region
      all_goals go_wp2
      all_goals go_roundw
      case rel => exact ⟨k + 1, by omega, by go_num, R.out.1, R.out.2⟩
      case measure => simp [intOf]; omega
    · have e : k = len := by omega
      subst e
      go_wp2
      go_ret
      exact ⟨rfl, hbel, row_done hrow⟩

/-- What At finds: the first of the cells from k on that bears the column. -/
def find (C : Nat → Int) (T : Nat → ByteArray) (col : Int) : Nat → Nat → Int × ByteArray
  | 0, _ => (col, ByteArray.empty)
  | m + 1, k => if C k = col then (C k, T k) else find C T col m (k + 1)

theorem find_hit (C : Nat → Int) (T : Nat → ByteArray) (i : Nat) : ∀ m k, k ≤ i → i < k + m → (∀ j, k ≤ j → j < i → C j ≠ C i) → find C T (C i) m k = (C i, T i)
  | 0, k, h1, h2, _ => by omega
  | m + 1, k, h1, h2, h => by
    unfold find
    by_cases e : k = i
    · subst e; simp
    · rw [if_neg (h k (by omega) (by omega))]
      exact find_hit C T i m (k + 1) (by omega) (by omega) (fun j a b => h j (by omega) b)

theorem alloc_cell {w : World} {b : Nat} (h : b < w.heap.size) (o : Obj) (i : Nat) : (w.alloc o).cell? ⟨b, i, none⟩ = w.cell? ⟨b, i, none⟩ :=
  ((Below.refl w.heap.size w).alloc (Nat.le_refl _) o).cell (p := ⟨b, i, none⟩) h
theorem alloc_frozen {w : World} {b : Nat} (h : b < w.heap.size) (o : Obj) (i : Nat) : (w.alloc o).frozen? ⟨b, i, none⟩ = w.frozen? ⟨b, i, none⟩ :=
  ((Below.refl w.heap.size w).alloc (Nat.le_refl _) o).frozen (p := ⟨b, i, none⟩) h
theorem set_two {B b : Nat} {w v : World} (h : Below B w v) (hb : B ≤ b) (x y : Value) : Below B w ((v.setCell ⟨b, 0, none⟩ x).setCell ⟨b, 1, none⟩ y) :=
  (h.setCell (p := ⟨b, 0, none⟩) hb x).setCell (p := ⟨b, 1, none⟩) hb y

set_option maxHeartbeats 400000 in
theorem at_any (num col : Int) (b off len cap : Nat) (C : Nat → Int) (T : Nat → ByteArray) (w : World) (hl : len ≤ 65536)
    (hc0 : ∀ k, k < len → w.cell? ⟨b, off + k * 2, none⟩ = some (.int .i64 (C k)))
    (hc1 : ∀ k, k < len → w.cell? ⟨b, off + k * 2 + 1, none⟩ = some (.string (T k))) :
    Calls Try.prog 9 #[.agg #[.int .i64 num, .slice (some ⟨b, off, none⟩) len cap], .int .i64 col] w fun e w' => e = .returned (.agg #[.int .i64 (find C T col len 0).1, .string (find C T col len 0).2]) ∧ Below w.heap.size w w' := by
  have hb : 0 < len → b < w.heap.size := fun h => World.block_lt_of_cell? _ _ (hc0 0 h)
  go_enter Try.func9, Try.ntmps9
  go_wp2
  go_loopw [10] (fun t wr => ∃ k : Nat, k ≤ len ∧ t = .int .i64 k ∧ Below w.heap.size w wr ∧ w.heap.size + 1 < wr.heap.size ∧ wr.cell? ⟨w.heap.size + 1, 0, none⟩ = some (.int .i64 0) ∧ wr.cell? ⟨w.heap.size + 1, 1, none⟩ = some (.string { data := #[] }) ∧ wr.frozen? ⟨w.heap.size + 1, 0, none⟩ = false ∧ wr.frozen? ⟨w.heap.size + 1, 1, none⟩ = false ∧ find C T col (len - k) k = find C T col len 0) (fun t _ => len - (intOf t).toNat)
  case atStart => exact ⟨0, Nat.zero_le _, rfl, ((Below.refl _ _).alloc (Nat.le_refl _) _).alloc (by simp) _, by simp, by simp, by simp, by simp, by simp, rfl⟩
  case round =>
    obtain ⟨k, hk, rfl, hbel, hsz, q0, q1, f0, f1, hf⟩ := hrel
    by_cases hlt : k < len
    · have g0 : wr.cell? ⟨b, off + k * 2, none⟩ = some (.int .i64 (C k)) := (hbel.cell (p := ⟨b, off + k * 2, none⟩) (hb (by omega))).trans (hc0 k hlt)
      have g1 : wr.cell? ⟨b, off + k * 2 + 1, none⟩ = some (.string (T k)) := (hbel.cell (p := ⟨b, off + k * 2 + 1, none⟩) (hb (by omega))).trans (hc1 k hlt)
      have HF : Hid (_ = _) := hf
      clear hc0 hc1 hf
      go_wp2
      · have hq : (C k == col) = true := by assumption
        have hv : find C T col len 0 = (C k, T k) := by
          rw [← HF.out, show len - k = (len - k - 1) + 1 from by omega, find, if_pos (by simpa using hq)]
        refine bodyPost_ret (v := .agg #[.int .i64 (C k), .string (T k)]) (by simp [results, Try.results9, go_sem, q0, q1, hsz]) rfl ⟨by rw [hv], ?_⟩
        exact (set_two hbel (Nat.le_succ _) _ _).alloc (by simp; omega) _
      · have hq : (C k == col) = false := by assumption
        have hv : find C T col (len - (k + 1)) (k + 1) = find C T col len 0 := by
          rw [← HF.out, show len - k = (len - (k + 1)) + 1 from by omega, find, if_neg (by simpa using hq)]
        go_roundw
        case rel => exact ⟨k + 1, by omega, by go_num, hbel.alloc (by omega) _, by simp; omega, (alloc_cell hsz _ _).trans q0, (alloc_cell hsz _ _).trans q1, (alloc_frozen hsz _ _).trans f0, (alloc_frozen hsz _ _).trans f1, hv⟩
        case measure => simp [intOf]; omega
    · have HF : Hid (_ = _) := hf
      clear hf
      go_wp2
      have hv : find C T col len 0 = (col, ByteArray.empty) := by
        rw [← HF.out, show len - k = 0 from by omega, find]
      refine bodyPost_ret (v := .agg #[.int .i64 col, .string { data := #[] }]) (by simp [results, Try.results9, go_sem, q0, q1]) rfl ⟨by rw [hv]; rfl, ?_⟩
      exact set_two hbel (Nat.le_succ _) _ _

/-- Some bool is returned. -/
def RetB (e : Ending) : Prop := ∃ r, e = .returned (.bool r)
theorem RetB.mk (r : Bool) : RetB (.returned (.bool r)) := ⟨r, rfl⟩

set_option maxHeartbeats 400000 in
theorem bytes_any (num i : Int) (a : Option Addr) (b off len cap : Nat) (T : Nat → ByteArray) (w : World) (hl : len ≤ 9223372036854775807) (ha : 0 < len → a = some ⟨b, off, none⟩)
    (hc1 : ∀ k, k < len → w.cell? ⟨b, off + k * 2 + 1, none⟩ = some (.string (T k))) :
    Calls Try.prog 5 #[.int .i64 num, .slice a len cap, .int .i64 i] w fun e w' => RetB e ∧ w = w' := by
  go_enter Try.func5, Try.ntmps5
  go_wp2
  · go_ret
    exact ⟨.mk _, rfl⟩
  · go_loop [7, 8] (fun z t => ∃ (k : Nat) (n : Int), k ≤ len ∧ t = .int .i64 k ∧ z = .int .i64 n) (fun _ t => len - (intOf t).toNat)
    case atStart => exact ⟨0, _, Nat.zero_le _, rfl, rfl⟩
    case round =>
      obtain ⟨k, n, hk, rfl, rfl⟩ := hrel
      by_cases hlt : k < len
      · have hcell := hc1 k hlt
        obtain rfl := ha (by omega)
        clear hc1
        go_wp2
        · go_ret
          exact ⟨.mk _, rfl⟩
        · go_ret
          exact ⟨.mk _, rfl⟩
        · go_round
          case rel => exact ⟨k + 1, _, by omega, by go_num, rfl⟩
          case measure => simp [intOf]; omega
      · go_wp2
        go_ret
        exact ⟨.mk _, rfl⟩

/-- A bool is returned; false means that there are few cells. -/
def RetS (len : Nat) (e : Ending) : Prop := ∃ r, e = .returned (.bool r) ∧ (r = false → len ≤ 65536)

set_option maxHeartbeats 400000 in
theorem big_any (a : Option Addr) (b off len cap : Nat) (T : Nat → ByteArray) (w : World) (hl : len ≤ 9223372036854775807) (ha : 0 < len → a = some ⟨b, off, none⟩)
    (hc1 : ∀ k, k < len → w.cell? ⟨b, off + k * 2 + 1, none⟩ = some (.string (T k))) :
    Calls Try.prog 6 #[.slice a len cap] w fun e w' => RetS len e ∧ w = w' := by
  by_cases hbig : len ≤ 65536
  · go_enter Try.func6, Try.ntmps6
    go_wp2
    go_loop [3, 4] (fun z t => ∃ (k : Nat) (n : Int), k ≤ len ∧ t = .int .i64 k ∧ z = .int .i64 n) (fun _ t => len - (intOf t).toNat)
    case atStart => exact ⟨0, _, Nat.zero_le _, rfl, rfl⟩
    case round =>
      obtain ⟨k, n, hk, rfl, rfl⟩ := hrel
      by_cases hlt : k < len
      · have hcell := hc1 k hlt
        obtain rfl := ha (by omega)
        clear hc1
        go_wp2
        · go_ret
          exact ⟨⟨_, rfl, fun _ => hbig⟩, rfl⟩
        · go_round
          case rel => exact ⟨k + 1, _, by omega, by go_num, rfl⟩
          case measure => simp [intOf]; omega
      · go_wp2
        go_ret
        exact ⟨⟨_, rfl, fun _ => hbig⟩, rfl⟩
  · go_enter Try.func6, Try.ntmps6
    go_wp2
    go_ret
    exact ⟨⟨_, rfl, fun h => by cases h⟩, rfl⟩
end Go.Proofs.Qxb6601360a
