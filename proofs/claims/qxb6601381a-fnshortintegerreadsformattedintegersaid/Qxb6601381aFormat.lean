import Derived.Test.Qxb6601381aRows
import Derived.Test.Qxb6601381aPlain
import Derived.WalkKit
import Derived.WalkSpells
import Derived.WalkLawsBesides
import Derived.Deep.OwnRows
namespace Go.Proofs.Qxb6601381a
open Go.RowKit

theorem Try.info5 : (Try.prog.info? 5).map (fun i => (i.zero, i.size, i.bytes)) = some (some (.int .u8 0), 1, 1) := by kernel_rfl

/-- A byte's cell. -/
def byteV (d : UInt8) : Value := .int .u8 (d.toNat : Int)

/-- What is still to be written, and what has been. -/
def Fm (u m : Nat) (l : List UInt8) : Prop := (0 < m → Lib.decDigits u = Lib.decDigits m ++ l) ∧ (m = 0 → Lib.decDigits u = l)

theorem Fm.start {u : Nat} (h : 0 < u) : Fm u u [] := ⟨fun _ => by simp, fun e => by omega⟩

theorem Fm.step {u m : Nat} {l : List UInt8} (h : Fm u m l) (hm : 0 < m) : Fm u (m / 10) (UInt8.ofNat (48 + m % 10) :: l) := by
  have h1 := h.1 hm
  have hmd : Lib.decDigits m = if h : m < 10 then [UInt8.ofNat (48 + m)] else Lib.decDigits (m / 10) ++ [UInt8.ofNat (48 + m % 10)] := by rw [Lib.decDigits]
  rw [hmd] at h1
  by_cases h10 : m < 10
  · rw [dif_pos h10] at h1
    refine ⟨fun e => by omega, fun _ => ?_⟩
    rw [h1, show m % 10 = m from by omega]; rfl
  · rw [dif_neg h10] at h1
    refine ⟨fun _ => ?_, fun e => by omega⟩
    rw [h1]; simp

theorem Fm.len {u m : Nat} {l : List UInt8} (h : Fm u m l) (hu : u < 10 ^ 19) : l.length ≤ 19 ∧ (0 < m → l.length ≤ 18) := by
  have hl := (digits_len u 19 (by decide)).1 hu
  by_cases hm : 0 < m
  · have h1 := congrArg List.length (h.1 hm)
    have h3 : 0 < (Lib.decDigits m).length := List.length_pos_iff.2 (digits_of m).2.2
    rw [List.length_append] at h1
    omega
  · have h1 := congrArg List.length (h.2 (by omega))
    omega

/-- The array of twenty bytes, the last of them written. -/
structure Buf (w wr : World) (l : List UInt8) : Prop where
  below : Below w.heap.size w wr
  size : wr.heap.size = w.heap.size + 1
  len : l.length ≤ 20
  row : ∃ f, wr.rowIs w.heap.size 53 20 f ∧ ∀ j (h : j < l.length), f (20 - l.length + j) = byteV l[j]

theorem buf_start (w : World) : Buf w (w.alloc (.cells #[.int .u8 0, .int .u8 0, .int .u8 0, .int .u8 0, .int .u8 0, .int .u8 0, .int .u8 0, .int .u8 0, .int .u8 0, .int .u8 0, .int .u8 0, .int .u8 0, .int .u8 0, .int .u8 0, .int .u8 0, .int .u8 0, .int .u8 0, .int .u8 0, .int .u8 0, .int .u8 0] 53)) [] := by
  refine ⟨(Below.refl _ _).alloc (Nat.le_refl _) _, by simp, by simp, fun _ => .int .u8 0, World.rowIs_alloc w _ 53 _ (fun i hi => ?_), fun j h => by simp at h⟩
  have e : (#[.int .u8 0, .int .u8 0, .int .u8 0, .int .u8 0, .int .u8 0, .int .u8 0, .int .u8 0, .int .u8 0, .int .u8 0, .int .u8 0, .int .u8 0, .int .u8 0, .int .u8 0, .int .u8 0, .int .u8 0, .int .u8 0, .int .u8 0, .int .u8 0, .int .u8 0, .int .u8 0] : Array Value) = Array.replicate 20 (.int .u8 0) := rfl
  rw [e] at hi ⊢
  simp at hi
  simp [hi]

theorem Buf.push {w wr : World} {l : List UInt8} (h : Buf w wr l) (hl : l.length < 20) (d : UInt8) : Buf w (wr.setCell ⟨w.heap.size, 20 - l.length - 1, none⟩ (byteV d)) (d :: l) := by
  obtain ⟨hb, hs, _, f, hf, hv⟩ := h
  refine ⟨hb.setCell (Nat.le_refl _) _, by simp [World.setCell, hs], by simp; omega, _, hf.set (20 - l.length - 1) (byteV d), fun j hj => ?_⟩
  simp only [List.length_cons] at hj ⊢
  cases j with
  | zero => rw [if_pos (by omega)]; rfl
  | succ j =>
    rw [if_neg (by omega)]
    have := hv j (by omega)
    rw [show 20 - (l.length + 1) + (j + 1) = 20 - l.length + j from by omega, this]
    rfl

theorem buf_zero (w : World) : Buf w (w.alloc (.cells #[.int .u8 0, .int .u8 0, .int .u8 0, .int .u8 0, .int .u8 0, .int .u8 0, .int .u8 0, .int .u8 0, .int .u8 0, .int .u8 0, .int .u8 0, .int .u8 0, .int .u8 0, .int .u8 0, .int .u8 0, .int .u8 0, .int .u8 0, .int .u8 0, .int .u8 0, .int .u8 48] 53)) [48] := by
  have h := (buf_start w).push (by simp) 48
  rw [World.setCell_alloc_at _ _ _ _ _ rfl] at h
  exact h

/-- The text that is handed back, k bytes in. -/
structure Out (w wr : World) (l : List UInt8) (k : Nat) : Prop where
  below : Below w.heap.size w wr
  row : ∃ f, wr.rowIs w.heap.size 53 20 f ∧ ∀ j (h : j < l.length), f (20 - l.length + j) = byteV l[j]
  out : wr.rowIs (w.heap.size + 1) 5 l.length (fun j => if j < k then byteV (l.getD j 0) else .int .u8 0)

theorem out_start {w wr : World} {l : List UInt8} (h : Buf w wr l) : Out w (wr.alloc (.cells (madeCells #[.int .u8 0] l.length) 5)) l 0 := by
  obtain ⟨hb, hs, _, f, hf, hv⟩ := h
  have hn := World.rowIs_made wr (.int .u8 0) l.length 5
  rw [hs] at hn
  exact ⟨hb.alloc (by omega) _, ⟨f, hf.alloc _, hv⟩, hn.congr fun j _ => by simp⟩

theorem Out.step {w wr : World} {l : List UInt8} {k : Nat} (h : Out w wr l k) (hk : k < l.length) : Out w (wr.setCell ⟨w.heap.size + 1, k, none⟩ (byteV l[k])) l (k + 1) := by
  obtain ⟨hb, ⟨f, hf, hv⟩, ho⟩ := h
  refine ⟨hb.setCell (Nat.le_succ _) _, ⟨f, hf.setOther (by show w.heap.size ≠ w.heap.size + 1; omega) _, hv⟩, (ho.set k _).congr fun j hj => ?_⟩
  by_cases e : j = k
  · subst e; simp [hk]
  · rw [if_neg e]
    by_cases hlt : j < k
    · rw [if_pos hlt, if_pos (by omega)]
    · rw [if_neg hlt, if_neg (by omega)]

theorem Out.fin {w wr : World} {l : List UInt8} (h : Out w wr l l.length) : ∀ j (hj : j < l.length), wr.cell? ⟨w.heap.size + 1, j, none⟩ = some (.int .u8 (l[j].toNat : Int)) := fun j hj => by
  rw [h.out.cell hj, if_pos hj]; simp [byteV, hj]

/-- What the call leaves. -/
def Leaves (l : List UInt8) (w : World) (e : Ending) (w' : World) : Prop :=
  ∃ g, e = .returned (.slice (some ⟨g, 0, none⟩) l.length l.length) ∧ (∀ j (h : j < l.length), w'.cell? ⟨g, j, none⟩ = some (.int .u8 (l[j].toNat : Int))) ∧ Below w.heap.size w w'

set_option maxHeartbeats 400000 in
theorem format_neg (u : Nat) (w : World) (h0 : 0 < u) (h1 : u ≤ 9223372036854775808) :
    Calls Try.prog 13 #[.int .i64 (-(u : Int))] w fun e w' => Leaves (45 :: Lib.decDigits u) w e w' := by
  have hu19 : u < 10 ^ 19 := by simp; omega
  go_enter Try.func13, Try.ntmps13
  go_wp2
  go_loopw [4, 6] (fun t i wr => ∃ (m : Nat) (l : List UInt8), i = .int .u64 m ∧ m ≤ 9223372036854775808 ∧ t = .int .i64 (20 - (l.length : Int)) ∧ Fm u m l ∧ Buf w wr l) (fun _ i _ => (intOf i).toNat)
  case atStart => exact ⟨u, [], congrArg (Value.int .u64) (by omega), h1, rfl, .start h0, buf_start w⟩
  case round =>
    obtain ⟨m, l, rfl, hm, rfl, hF, hB⟩ := hrel
    have hlen := hF.len hu19
    by_cases hpos : 0 < m
    · have hl := hlen.2 hpos
      have hF' := hF.step hpos
      obtain ⟨f, hf, _⟩ := hB.row
      have g1 := hf.cell (i := 20 - l.length - 1) (by omega)
      have g2 := hf.frozen (20 - l.length - 1)
      have hB' := hB.push (by omega) (UInt8.ofNat (48 + m % 10))
      have hbv : byteV (UInt8.ofNat (48 + m % 10)) = .int .u8 (48 + (m : Int) % 10) := by
        unfold byteV; rw [digit_nat _ (by omega)]; congr 1
      rw [hbv] at hB'
      have HB : Hid (_ ∧ _) := ⟨hF', hB'⟩
      clear hF hF' hB hB' hbv hf hu19 hlen
      go_wp2
      go_roundw
      case rel => exact ⟨m / 10, _ :: l, by go_num, by omega, by simp; omega, HB.out.1, HB.out.2⟩
      case measure => simp [intOf]; omega
    · obtain rfl : m = 0 := by omega
      have hd := hF.2 rfl
      obtain rfl := hd.symm
      have hl := hlen.1
      obtain ⟨f, hf, _⟩ := hB.row
      have g1 := hf.cell (i := 20 - (Lib.decDigits u).length - 1) (by omega)
      have g2 := hf.frozen (20 - (Lib.decDigits u).length - 1)
      have hB' := hB.push (by omega) 45
      have hmk := run_make_row' (P := Try.prog) 22 5 (.int .u8 0) 1 Try.underlying22 Try.info5 rfl .i64 .i64 ((Lib.decDigits u).length + 1) (by omega) (by omega)
      rw [show (((Lib.decDigits u).length + 1 : Nat) : Int) = 20 - (20 - ((Lib.decDigits u).length : Int) - 1) from by omega] at hmk
      have hsize := hB.size
      have HB : Hid (Buf w (wr.setCell ⟨w.heap.size, 20 - (Lib.decDigits u).length - 1, none⟩ (.int .u8 45)) (45 :: Lib.decDigits u)) := hB'
      clear hF hB hB' hf hu19 hlen hd
      go_wp2_with fail
      go_loopw [8] (fun i wx => ∃ k : Nat, k ≤ (45 :: Lib.decDigits u).length ∧ i = .int .i64 k ∧ Out w wx (45 :: Lib.decDigits u) k) (fun i _ => (45 :: Lib.decDigits u).length - (intOf i).toNat)
      case atStart => exact ⟨0, Nat.zero_le _, rfl, out_start HB.out⟩
      case round =>
        obtain ⟨k, hk, rfl, hO⟩ := hrel
        clear HB hmk g1 g2
        by_cases hlt : k < (45 :: Lib.decDigits u).length
        · obtain ⟨f, hf, hv⟩ := hO.row
          have g1 : wr.cell? ⟨w.heap.size, 20 - (Lib.decDigits u).length - 1 + k, none⟩ = some (byteV (45 :: Lib.decDigits u)[k]) := by
            have := hv k hlt
            simp only [List.length_cons] at this
            rw [show 20 - (Lib.decDigits u).length - 1 + k = 20 - ((Lib.decDigits u).length + 1) + k from by omega, ← this]
            exact hf.cell (by simp at hlt; omega)
          have g2 := hO.out.cell hlt
          have g3 := hO.out.frozen k
          have hO' := hO.step hlt
          obtain ⟨x, hx⟩ : ∃ x : Int, byteV (45 :: Lib.decDigits u)[k] = .int .u8 x := ⟨_, rfl⟩
          rw [hx] at g1 hO'
          have HO : Hid (Out w (wr.setCell ⟨w.heap.size + 1, k, none⟩ (.int .u8 x)) (45 :: Lib.decDigits u) (k + 1)) := hO'
          clear hx
          have hlt' : k < (Lib.decDigits u).length + 1 := hlt
          clear hO hO' hf hv
          go_wp2
          go_roundw
          case rel => exact ⟨k + 1, hlt, by go_num, HO.out⟩
          case measure => simp [intOf]; omega
        · obtain rfl : k = (45 :: Lib.decDigits u).length := by omega
          go_wp2
          go_ret
          exact ⟨_, rfl, hO.fin, hO.below⟩

set_option maxHeartbeats 400000 in
theorem format_pos (u : Nat) (w : World) (h0 : 0 < u) (h1 : u ≤ 9223372036854775807) :
    Calls Try.prog 13 #[.int .i64 (u : Int)] w fun e w' => Leaves (Lib.decDigits u) w e w' := by
  have hu19 : u < 10 ^ 19 := by simp; omega
  go_enter Try.func13, Try.ntmps13
  go_wp2
  go_loopw [4, 6] (fun t i wr => ∃ (m : Nat) (l : List UInt8), i = .int .u64 m ∧ m ≤ 9223372036854775808 ∧ t = .int .i64 (20 - (l.length : Int)) ∧ Fm u m l ∧ Buf w wr l) (fun _ i _ => (intOf i).toNat)
  case atStart => exact ⟨u, [], rfl, by omega, rfl, .start h0, buf_start w⟩
  case round =>
    obtain ⟨m, l, rfl, hm, rfl, hF, hB⟩ := hrel
    have hlen := hF.len hu19
    by_cases hpos : 0 < m
    · have hl := hlen.2 hpos
      have hF' := hF.step hpos
      obtain ⟨f, hf, _⟩ := hB.row
      have g1 := hf.cell (i := 20 - l.length - 1) (by omega)
      have g2 := hf.frozen (20 - l.length - 1)
      have hB' := hB.push (by omega) (UInt8.ofNat (48 + m % 10))
      have hbv : byteV (UInt8.ofNat (48 + m % 10)) = .int .u8 (48 + (m : Int) % 10) := by
        unfold byteV; rw [digit_nat _ (by omega)]; congr 1
      rw [hbv] at hB'
      have HB : Hid (_ ∧ _) := ⟨hF', hB'⟩
      clear hF hF' hB hB' hbv hf hu19 hlen
      go_wp2
      go_roundw
      case rel => exact ⟨m / 10, _ :: l, by go_num, by omega, by simp; omega, HB.out.1, HB.out.2⟩
      case measure => simp [intOf]; omega
    · obtain rfl : m = 0 := by omega
      have hd := hF.2 rfl
      obtain rfl := hd.symm
      have hl := hlen.1
      obtain ⟨f, hf, _⟩ := hB.row
      have hmk := run_make_row' (P := Try.prog) 22 5 (.int .u8 0) 1 Try.underlying22 Try.info5 rfl .i64 .i64 (Lib.decDigits u).length (by omega) (by omega)
      rw [show (((Lib.decDigits u).length : Nat) : Int) = 20 - (20 - ((Lib.decDigits u).length : Int)) from by omega] at hmk
      have hsize := hB.size
      have HB : Hid (Buf w wr (Lib.decDigits u)) := hB
      clear hF hB hf hu19 hlen hd
      go_wp2_with fail
      go_loopw [8] (fun i wx => ∃ k : Nat, k ≤ (Lib.decDigits u).length ∧ i = .int .i64 k ∧ Out w wx (Lib.decDigits u) k) (fun i _ => (Lib.decDigits u).length - (intOf i).toNat)
      case atStart => exact ⟨0, Nat.zero_le _, rfl, out_start HB.out⟩
      case round =>
        obtain ⟨k, hk, rfl, hO⟩ := hrel
        clear HB hmk
        by_cases hlt : k < (Lib.decDigits u).length
        · obtain ⟨f, hf, hv⟩ := hO.row
          have g1 : wr.cell? ⟨w.heap.size, 20 - (Lib.decDigits u).length + k, none⟩ = some (byteV (Lib.decDigits u)[k]) := by
            rw [← hv k hlt]
            exact hf.cell (by omega)
          have g2 := hO.out.cell hlt
          have g3 := hO.out.frozen k
          have hO' := hO.step hlt
          obtain ⟨x, hx⟩ : ∃ x : Int, byteV (Lib.decDigits u)[k] = .int .u8 x := ⟨_, rfl⟩
          rw [hx] at g1 hO'
          have HO : Hid (Out w (wr.setCell ⟨w.heap.size + 1, k, none⟩ (.int .u8 x)) (Lib.decDigits u) (k + 1)) := hO'
          clear hx
          clear hO hO' hf hv
          go_wp2
          go_roundw
          case rel => exact ⟨k + 1, hlt, by go_num, HO.out⟩
          case measure => simp [intOf]; omega
        · obtain rfl : k = (Lib.decDigits u).length := by omega
          go_wp2
          go_ret
          exact ⟨_, rfl, hO.fin, hO.below⟩

theorem zero_digits : Lib.decDigits 0 = [48] := by rw [Lib.decDigits, dif_pos (by decide)]; rfl

set_option maxHeartbeats 400000 in
theorem format_zero (w : World) :
    Calls Try.prog 13 #[.int .i64 0] w fun e w' => Leaves (Lib.decDigits 0) w e w' := by
  have hu19 : 0 < 10 ^ 19 := by decide
  go_enter Try.func13, Try.ntmps13
  go_wp2
  go_loopw [4, 6] (fun t i wr => ∃ (m : Nat) (l : List UInt8), i = .int .u64 m ∧ m ≤ 9223372036854775808 ∧ t = .int .i64 (20 - (l.length : Int)) ∧ Fm 0 m l ∧ Buf w wr l) (fun _ i _ => (intOf i).toNat)
  case atStart => exact ⟨0, [48], rfl, by omega, rfl, ⟨fun h => by omega, fun _ => zero_digits⟩, buf_zero w⟩
  case round =>
    obtain ⟨m, l, rfl, hm, rfl, hF, hB⟩ := hrel
    have hlen := hF.len hu19
    by_cases hpos : 0 < m
    · have hl := hlen.2 hpos
      have hF' := hF.step hpos
      obtain ⟨f, hf, _⟩ := hB.row
      have g1 := hf.cell (i := 20 - l.length - 1) (by omega)
      have g2 := hf.frozen (20 - l.length - 1)
      have hB' := hB.push (by omega) (UInt8.ofNat (48 + m % 10))
      have hbv : byteV (UInt8.ofNat (48 + m % 10)) = .int .u8 (48 + (m : Int) % 10) := by
        unfold byteV; rw [digit_nat _ (by omega)]; congr 1
      rw [hbv] at hB'
      have HB : Hid (_ ∧ _) := ⟨hF', hB'⟩
      clear hF hF' hB hB' hbv hf hu19 hlen
      go_wp2
      go_roundw
      case rel => exact ⟨m / 10, _ :: l, by go_num, by omega, by simp; omega, HB.out.1, HB.out.2⟩
      case measure => simp [intOf]; omega
    · obtain rfl : m = 0 := by omega
      have hd := hF.2 rfl
      obtain rfl := hd.symm
      have hl := hlen.1
      obtain ⟨f, hf, _⟩ := hB.row
      have hmk := run_make_row' (P := Try.prog) 22 5 (.int .u8 0) 1 Try.underlying22 Try.info5 rfl .i64 .i64 (Lib.decDigits 0).length (by omega) (by omega)
      rw [show (((Lib.decDigits 0).length : Nat) : Int) = 20 - (20 - ((Lib.decDigits 0).length : Int)) from by omega] at hmk
      have hsize := hB.size
      have HB : Hid (Buf w wr (Lib.decDigits 0)) := hB
      clear hF hB hf hu19 hlen hd
      go_wp2_with fail
      go_loopw [8] (fun i wx => ∃ k : Nat, k ≤ (Lib.decDigits 0).length ∧ i = .int .i64 k ∧ Out w wx (Lib.decDigits 0) k) (fun i _ => (Lib.decDigits 0).length - (intOf i).toNat)
      case atStart => exact ⟨0, Nat.zero_le _, rfl, out_start HB.out⟩
      case round =>
        obtain ⟨k, hk, rfl, hO⟩ := hrel
        clear HB hmk
        by_cases hlt : k < (Lib.decDigits 0).length
        · obtain ⟨f, hf, hv⟩ := hO.row
          have g1 : wr.cell? ⟨w.heap.size, 20 - (Lib.decDigits 0).length + k, none⟩ = some (byteV (Lib.decDigits 0)[k]) := by
            rw [← hv k hlt]
            exact hf.cell (by omega)
          have g2 := hO.out.cell hlt
          have g3 := hO.out.frozen k
          have hO' := hO.step hlt
          obtain ⟨x, hx⟩ : ∃ x : Int, byteV (Lib.decDigits 0)[k] = .int .u8 x := ⟨_, rfl⟩
          rw [hx] at g1 hO'
          have HO : Hid (Out w (wr.setCell ⟨w.heap.size + 1, k, none⟩ (.int .u8 x)) (Lib.decDigits 0) (k + 1)) := hO'
          clear hx
          clear hO hO' hf hv
          go_wp2
          go_roundw
          case rel => exact ⟨k + 1, hlt, by go_num, HO.out⟩
          case measure => simp [intOf]; omega
        · obtain rfl : k = (Lib.decDigits 0).length := by omega
          go_wp2
          go_ret
          exact ⟨_, rfl, hO.fin, hO.below⟩
end Go.Proofs.Qxb6601381a
