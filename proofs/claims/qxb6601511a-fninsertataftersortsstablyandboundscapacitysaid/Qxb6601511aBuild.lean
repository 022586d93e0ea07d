import Derived.Test.Qxb6601511aLog
import Derived.Laws.CopyOwn
namespace Go.Proofs.Qxb6601511a
open Go.RowKit

theorem Try.info61 : (Try.prog.info? 61).map (fun i => (i.zero, i.size, i.bytes)) = some (some (.agg #[.int .u64 0, .int .u64 0, .int .i64 0, .int .u64 0]), 4, 32) := by kernel_rfl
theorem Try.info23 : (Try.prog.info? 23).map (fun i => (i.zero, i.size, i.bytes)) = some (some (.int .u64 0), 1, 8) := by kernel_rfl

theorem run_make_any {P : Program} (t e : TypeId) (z : Value) (sz bytes : Nat) (ht : P.underlying t = some (.slice e)) (hinfo : (P.info? e).map (fun i => (i.zero, i.size, i.bytes)) = some (some z, sz, bytes))
    (kl kc : IntKind) (n : Nat) (hbytes : bytes * n ≤ 281474976710656) (h63 : n ≤ 9223372036854775807) (w : World) :
    (Instr.makeSlice t (.int kl (n : Int)) (.int kc (n : Int))).run P w = .ok (.slice (some ⟨w.heap.size, 0, none⟩) n n) (w.alloc (.cells (madeCells z.cells (n * sz)) e)) := by
  obtain ⟨i, hi, hzz⟩ := Option.map_eq_some_iff.1 hinfo
  simp only [Prod.mk.injEq] at hzz
  obtain ⟨hz, hs, hb⟩ := hzz
  have hb' : (i.bytes : Int) * (n : Int) ≤ 281474976710656 := by
    have h : ((i.bytes * n : Nat) : Int) ≤ 281474976710656 := by rw [hb]; omega
    rwa [Int.natCast_mul] at h
  have hr := run_make (P := P) w t e i z ht hi hz kl kc n n (by omega) (Int.le_refl _) hb' (by omega)
  simp only [Int.toNat_natCast, hs] at hr
  exact hr

/-- What make lays, told by the cells alone. -/
theorem made_any (w : World) (z : Array Value) (m t : Nat) : ∃ f, (w.alloc (.cells (madeCells z m) t)).rowIs w.heap.size t m f :=
  ⟨fun i => z[i % z.size]!, _, Deep.blk_alloc_new _ _, size_madeCells _ _, fun i hi => by simp [madeCells, hi]⟩

/-- The places of the log, k of them filled. -/
def Filled (w : World) (B n k : Nat) (HI LO : Nat → Int) : Prop := ∃ f, w.rowIs B 61 (n * 4) f ∧ ∀ j, j < k → f (j * 4) = .int .u64 (HI j) ∧ f (j * 4 + 1) = .int .u64 (LO j)

theorem Filled.step {w : World} {B n k : Nat} {HI LO : Nat → Int} (h : Filled w B n k HI LO) (a b : Int) (c d : Value) (ha : a = HI k) (hb : b = LO k) :
    Filled ((((w.setCell ⟨B, k * 4, none⟩ (.int .u64 a)).setCell ⟨B, k * 4 + 1, none⟩ (.int .u64 b)).setCell ⟨B, k * 4 + 2, none⟩ c).setCell ⟨B, k * 4 + 3, none⟩ d).drew B n (k + 1) HI LO := by
  obtain ⟨f, hf, hv⟩ := h
  refine ⟨_, ((((hf.set (k * 4) _).set (k * 4 + 1) _).set (k * 4 + 2) _).set (k * 4 + 3) _).drew, fun j hj => ?_⟩
  subst ha hb
  by_cases e : j = k
  · subst e
    constructor
    · rw [if_neg (by omega), if_neg (by omega), if_neg (by omega), if_pos rfl]
    · rw [if_neg (by omega), if_neg (by omega), if_pos rfl]
  · have := hv j (by omega)
    constructor
    · rw [if_neg (by omega), if_neg (by omega), if_neg (by omega), if_neg (by omega)]; exact this.1
    · rw [if_neg (by omega), if_neg (by omega), if_neg (by omega), if_neg (by omega)]; exact this.2

set_option maxHeartbeats 400000 in
theorem build_pos (gh oh gl ol n c0 c1 head cnt : Nat) (HI LO : Nat → Int) (w : World) (hn : 0 < n) (hn2 : n ≤ 65536)
    (hh : ∀ j, j < n → w.cell? ⟨gh, oh + j, none⟩ = some (.int .u64 (HI j))) (hl : ∀ j, j < n → w.cell? ⟨gl, ol + j, none⟩ = some (.int .u64 (LO j))) :
    Calls Try.prog 12 #[.slice (some ⟨gh, oh, none⟩) n c0, .slice (some ⟨gl, ol, none⟩) n c1, .int .i64 head, .int .i64 cnt] w fun e w' => ∃ L g, e = .returned (.pointer (some ⟨L, 0, none⟩)) ∧ Log w' L g n head cnt HI LO ∧ Below w.heap.size w w' := by
  have hmk := run_make_any (P := Try.prog) 59 61 _ 4 32 Try.underlying59 Try.info61 .i64 .i64 n (by omega) (by omega)
  have hgh := World.block_lt_of_cell? _ _ (hh 0 hn)
  have hgl := World.block_lt_of_cell? _ _ (hl 0 hn)
  go_enter Try.func12, Try.ntmps12
  go_wp2
  go_loopw [16] (fun t wr => ∃ k : Nat, k ≤ n ∧ t = .int .i64 k ∧ Below w.heap.size w wr ∧ Filled wr w.heap.size n k HI LO) (fun t _ => n - (intOf t).toNat)
  case atStart =>
    obtain ⟨f, hf⟩ := made_any w (Value.agg #[.int .u64 0, .int .u64 0, .int .i64 0, .int .u64 0]).cells (n * 4) 61
    exact ⟨0, Nat.zero_le _, rfl, (Below.refl _ _).alloc (Nat.le_refl _) _, f, hf, fun j hj => by omega⟩
  case round =>
    obtain ⟨k, hk, rfl, hbel, hF⟩ := hrel
    clear hmk
    by_cases hlt : k < n
    · have g0 : wr.cell? ⟨gh, oh + k, none⟩ = some (.int .u64 (HI k)) := (hbel.cell (p := ⟨gh, oh + k, none⟩) hgh).trans (hh k hlt)
      have g1 : wr.cell? ⟨gl, ol + k, none⟩ = some (.int .u64 (LO k)) := (hbel.cell (p := ⟨gl, ol + k, none⟩) hgl).trans (hl k hlt)
      obtain ⟨f, hf, hfv⟩ := hF
      have q0 := hf.cell (i := k * 4) (by omega)
      have q1 := hf.cell (i := k * 4 + 1) (by omega)
      have q2 := hf.cell (i := k * 4 + 2) (by omega)
      have q3 := hf.cell (i := k * 4 + 3) (by omega)
      have r0 := hf.frozen (k * 4)
      have r1 := hf.frozen (k * 4 + 1)
      have r2 := hf.frozen (k * 4 + 2)
      have r3 := hf.frozen (k * 4 + 3)
      have hF' := Filled.step ⟨f, hf, hfv⟩ (HI k) (LO k) (.int .i64 0) (.int .u64 0) rfl rfl
      have hb' := ((((hbel.setCell (p := ⟨w.heap.size, k * 4, none⟩) (Nat.le_refl _) (.int .u64 (HI k))).setCell (p := ⟨w.heap.size, k * 4 + 1, none⟩) (Nat.le_refl _) (.int .u64 (LO k))).setCell (p := ⟨w.heap.size, k * 4 + 2, none⟩) (Nat.le_refl _) (.int .i64 0)).setCell (p := ⟨w.heap.size, k * 4 + 3, none⟩) (Nat.le_refl _) (.int .u64 0)).drew
      have R : Hid (_ ∧ _) := ⟨hb', hF'⟩
      clear hh hl hf hF' hb'
      go_wp2
      go_region
      all_goals go_wp2
      all_goals
        go_roundw
        case rel => exact ⟨k + 1, by omega, by go_num, R.out.1, R.out.2⟩
        case measure => simp [intOf]; omega
    · obtain rfl : k = n := by omega
      have hBw : w.heap.size < wr.heap.size := by obtain ⟨f, hf, _⟩ := hF; exact hf.lt
      go_wp2
      go_ret
      obtain ⟨f, hf, hv⟩ := hF
      refine ⟨_, w.heap.size, rfl, ⟨by simp, by simp, by simp, fun j hj => ?_, fun j hj => ?_⟩, hbel.alloc (by omega) _⟩
      · rw [((Below.refl wr.heap.size wr).alloc (Nat.le_refl _) _).cell (p := ⟨w.heap.size, j * 4, none⟩) hBw, hf.cell (by omega), (hv j hj).1]
      · rw [((Below.refl wr.heap.size wr).alloc (Nat.le_refl _) _).cell (p := ⟨w.heap.size, j * 4 + 1, none⟩) hBw, hf.cell (by omega), (hv j hj).2]

set_option maxHeartbeats 400000 in
theorem build_zero (ah al : Option Addr) (c0 c1 : Nat) (head : Int) (w : World) :
    Calls Try.prog 12 #[.slice ah 0 c0, .slice al 0 c1, .int .i64 head, .int .i64 0] w fun e w' => ∃ L, e = .returned (.pointer (some ⟨L, 0, none⟩)) ∧ w'.cell? ⟨L, 2, none⟩ = some (.int .i64 0) ∧ Below w.heap.size w w' := by
  have hmk : ∀ w, (Instr.makeSlice 59 (.int .i64 0) (.int .i64 0)).run Try.prog w = .ok (.slice (some ⟨w.heap.size, 0, none⟩) 0 0) (w.alloc (.cells (madeCells (Value.agg #[.int .u64 0, .int .u64 0, .int .i64 0, .int .u64 0]).cells (0 * 4)) 61)) :=
    fun w => run_make_any (P := Try.prog) 59 61 _ 4 32 Try.underlying59 Try.info61 .i64 .i64 0 (by omega) (by omega) w
  go_enter Try.func12, Try.ntmps12
  go_wp2
  refine wp_loop_rounds 1 ?_
  rw [rounds_succ]
  go_wp2
  go_ret
  exact ⟨_, rfl, by simp, ((Below.refl _ _).alloc (Nat.le_refl _) _).alloc (by simp) _⟩

set_option maxHeartbeats 400000 in
theorem zzafter_any (L g size head n : Nat) (HI LO : Nat → Int) (ah al : Int) (w : World) (hs : size ≤ 65536) (h1 : head < size) (hn : n ≤ size) (hlog : Log w L g size head n HI LO) :
    Calls Try.prog 11 #[.pointer (some ⟨L, 0, none⟩), .int .u64 ah, .int .u64 al] w fun e w' => ∃ r, Bound ah al size head n HI LO r ∧ e = .returned (.int .i64 (r : Nat)) ∧ Below w.heap.size w w' := by
  have K : Hid _ := after_any L g size head n HI LO ah al w hs h1 hn hlog
  clear hlog
  go_enter Try.func11, Try.ntmps11
  go_wp2_with fail
  refine (Calls.mono (Hid.out K)) ?_
  rintro e w1 ⟨r, hr, rfl, hb⟩
  go_wp2_with fail
  go_ret
  exact ⟨r, hr, rfl, hb⟩

set_option maxHeartbeats 400000 in
theorem zzafter_zero (L : Nat) (ah al : Int) (w : World) (c2 : w.cell? ⟨L, 2, none⟩ = some (.int .i64 0)) :
    Calls Try.prog 11 #[.pointer (some ⟨L, 0, none⟩), .int .u64 ah, .int .u64 al] w fun e w' => e = .returned (.int .i64 0) ∧ Below w.heap.size w w' := by
  have K : Hid _ := after_zero L ah al w c2
  go_enter Try.func11, Try.ntmps11
  go_wp2_with fail
  refine (Calls.mono (Hid.out K)) ?_
  rintro e w1 ⟨rfl, hb⟩
  go_wp2_with fail
  go_ret
  exact ⟨rfl, hb⟩

/-- The shape of a log. -/
def Shape (size head n : Int) : Prop := 0 ≤ n ∧ n ≤ size ∧ (0 < size → 0 ≤ head ∧ head < size)

set_option maxHeartbeats 400000 in
theorem shape_yes (size head n : Int) (w : World) (h : Shape size head n) : Calls Try.prog 9 #[.int .i64 size, .int .i64 head, .int .i64 n] w fun e w' => e = .returned (.bool true) ∧ w = w' := by
  obtain ⟨h1, h2, h3⟩ := h
  by_cases hp : 0 < size
  · obtain ⟨h4, h5⟩ := h3 hp
    clear h3
    go_enter Try.func9, Try.ntmps9
    go_wp2
    go_ret
    exact ⟨rfl, rfl⟩
  · clear h3
    go_enter Try.func9, Try.ntmps9
    go_wp2
    go_ret
    exact ⟨rfl, rfl⟩

set_option maxHeartbeats 400000 in
theorem shape_no (size head n : Int) (w : World) (h : ¬ Shape size head n) : Calls Try.prog 9 #[.int .i64 size, .int .i64 head, .int .i64 n] w fun e w' => e = .returned (.bool false) ∧ w = w' := by
  by_cases h1 : n < 0
  · clear h
    go_enter Try.func9, Try.ntmps9
    go_wp2
    go_ret
    exact ⟨rfl, rfl⟩
  · by_cases h2 : size < n
    · clear h
      go_enter Try.func9, Try.ntmps9
      go_wp2
      go_ret
      exact ⟨rfl, rfl⟩
    · by_cases h3 : 0 < size
      · by_cases h4 : head < 0
        · clear h
          go_enter Try.func9, Try.ntmps9
          go_wp2
          go_ret
          exact ⟨rfl, rfl⟩
        · have h5 : size ≤ head := by
            refine Int.not_lt.1 fun h5 => ?_
            exact h ⟨by omega, by omega, fun _ => ⟨by omega, h5⟩⟩
          clear h
          go_enter Try.func9, Try.ntmps9
          go_wp2
          go_ret
          exact ⟨rfl, rfl⟩
      · exact absurd ⟨by omega, by omega, fun h => absurd h h3⟩ h

/-- Some bool is returned. -/
def RetB (e : Ending) : Prop := ∃ r, e = .returned (.bool r)
theorem RetB.mk (r : Bool) : RetB (.returned (.bool r)) := ⟨r, rfl⟩

set_option maxHeartbeats 400000 in
theorem bytes14 (a0 a1 : Option Addr) (n0 c0 n1 c1 : Nat) (x y z t : Int) (kz : World) (h0 : n0 ≤ 9223372036854775807) (h1 : n1 ≤ 9223372036854775807) :
    Calls Try.prog 14 #[.slice a0 n0 c0, .slice a1 n1 c1, .int .i64 x, .int .i64 y, .int .u64 z, .int .u64 t] kz fun e w' => RetB e ∧ kz = w' := by
  go_enter Try.func14, Try.ntmps14
  go_wp2
  all_goals (go_ret; exact ⟨.mk _, rfl⟩)

set_option maxHeartbeats 400000 in
theorem bytes8 (a0 a1 : Option Addr) (n0 c0 n1 c1 : Nat) (x y z t : Int) (kz : World) (h0 : n0 ≤ 9223372036854775807) (h1 : n1 ≤ 9223372036854775807) :
    Calls Try.prog 8 #[.slice a0 n0 c0, .slice a1 n1 c1, .int .i64 x, .int .i64 y, .int .u64 z, .int .u64 t] kz fun e w' => RetB e ∧ kz = w' := by
  go_enter Try.func8, Try.ntmps8
  go_wp2
  all_goals (go_ret; exact ⟨.mk _, rfl⟩)

/-- 'zzc := make([]uint64, len(xs)); copy(zzc, xs)', the copy: a row of the call's own that holds what xs held. -/
theorem wpList_copyrow {ops : Array Oper} {rest : List Oper} {o : Oper} {a : Act} {Q : Exit → Act → World → Prop} (hgd : o.guard = none) (d s : Operand)
    (ho : o.op = .call { callee := .builtin .copy, args := #[d, s], argTypes := #[22, 22] }) (x : Addr) (b off n cap : Nat) (H : Nat → Int) (W : World)
    (hd : a.eval d = .slice (some ⟨W.heap.size, 0, none⟩) n n) (hs : a.eval s = .slice (some x) n cap) (hx : 0 < n → x = ⟨b, off, none⟩)
    (hc : ∀ j, j < n → W.cell? ⟨b, off + j, none⟩ = some (.int .u64 (H j)))
    (h : ∀ w', Below W.heap.size W w' → W.heap.size < w'.heap.size → (∀ j, j < n → w'.cell? ⟨W.heap.size, j, none⟩ = some (.int .u64 (H j))) → wpList Try.prog ops Q rest (a.put o.dst (goInt n)) w') :
    wpList Try.prog ops Q (o :: rest) a (W.alloc (.cells (madeCells #[.int .u64 0] n) 23)) := by
  refine wpList_copy_splice hgd d s 22 22 ho 23 Try.underlying22 (by kernel_rfl) _ _ n n n cap hd hs W.heap.size 0 (madeCells #[.int .u64 0] n).toList 23 (Deep.blk_alloc_new _ _)
    ((List.range n).map fun j => Value.int .u64 (H j)) (by simp) (fun _ => ⟨rfl, x, rfl, fun j v hv => ?_⟩) (by simp [size_madeCells]) (fun v hv => ?_) W.heap.size W ((Below.refl _ _).alloc (Nat.le_refl _) _) (Nat.le_refl _) (fun w' hg hb => ?_)
  · have hj : j < n := by
      have := (List.getElem?_eq_some_iff.1 hv).1
      simpa using this
    obtain rfl : v = .int .u64 (H j) := by
      rw [List.getElem?_map, List.getElem?_range hj] at hv
      simpa using hv.symm
    have hb := World.block_lt_of_cell? _ _ (hc j hj)
    rw [hx (by omega), Go.WideShapes.add_plain, ((Below.refl W.heap.size W).alloc (Nat.le_refl _) _).cell (p := ⟨b, off + j, none⟩) hb]
    exact hc j hj
  · obtain ⟨j, _, rfl⟩ := List.mem_map.1 hv
    rfl
  · have hg' := Hid.out hg
    rw [show ((List.range n).map fun j => Value.int .u64 (H j)).length = n from by simp]
    refine h w' hb (Array.getElem?_eq_some_iff.1 hg').1 fun j hj => ?_
    have hj2 : j < ((List.range n).map fun j => Value.int .u64 (H j)).length := by simpa using hj
    simp [World.cell?, hg', splice, List.getElem?_append_left hj2, hj]
end Go.Proofs.Qxb6601511a
