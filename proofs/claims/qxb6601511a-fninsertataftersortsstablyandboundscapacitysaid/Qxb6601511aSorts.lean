import Derived.Test.Qxb6601511aInsert
namespace Go.Proofs.Qxb6601511a
open Go.RowKit

set_option maxHeartbeats 400000 in
theorem bytes19 (a0 a1 : Option Addr) (n0 c0 n1 c1 : Nat) (x : Int) (kz : World) (h0 : n0 ≤ 9223372036854775807) (h1 : n1 ≤ 9223372036854775807) :
    Calls Try.prog 19 #[.slice a0 n0 c0, .slice a1 n1 c1, .int .i64 x] kz fun e w' => RetB e ∧ kz = w' := by
  go_enter Try.func19, Try.ntmps19
  go_wp2
  all_goals (go_ret; exact ⟨.mk _, rfl⟩)

set_option maxHeartbeats 400000 in
theorem new20 (w : World) : Calls Try.prog 20 #[] w fun e w' => e = .returned (.pointer (some ⟨w.heap.size, 0, none⟩)) ∧ w' = w.alloc (.cells #[.slice none 0 0, .int .i64 0, .int .i64 0] 63) := by
  go_enter Try.func20, Try.ntmps20
  go_wp2
  go_ret
  exact ⟨rfl, rfl⟩

set_option maxHeartbeats 400000 in
theorem len21 (L : Nat) (n : Int) (w : World) (c2 : w.cell? ⟨L, 2, none⟩ = some (.int .i64 n)) : Calls Try.prog 21 #[.pointer (some ⟨L, 0, none⟩)] w fun e w' => e = .returned (.int .i64 n) ∧ w = w' := by
  go_enter Try.func21, Try.ntmps21
  go_wp2
  go_ret
  exact ⟨rfl, rfl⟩

set_option maxHeartbeats 400000 in
theorem cap22 (L : Nat) (a : Option Addr) (n : Nat) (w : World) (c0 : w.cell? ⟨L, 0, none⟩ = some (.slice a n n)) : Calls Try.prog 22 #[.pointer (some ⟨L, 0, none⟩)] w fun e w' => e = .returned (.int .i64 n) ∧ w = w' := by
  go_enter Try.func22, Try.ntmps22
  go_wp2
  go_ret
  exact ⟨rfl, rfl⟩

theorem results_tmp4 {fn : Func} {t u v x : Tmp} (h : fn.results = #[.tmp t, .tmp u, .tmp v, .tmp x]) (tmps : Array Value) (P : Program) (w : World) :
    (results fn tmps).run P w = .ok (.tuple #[tmps.getD t undef, tmps.getD u undef, tmps.getD v undef, tmps.getD x undef]) w := by
  simp [results, h]

set_option maxHeartbeats 400000 in
theorem at23 (L g size i : Nat) (x : Ent) (w : World) (hs : size ≤ 65536) (h2 : i < size) (c0 : w.cell? ⟨L, 0, none⟩ = some (.slice (some ⟨g, 0, none⟩) size size)) (c1 : w.cell? ⟨L, 1, none⟩ = some (.int .i64 0))
    (e0 : w.cell? ⟨g, i * 4, none⟩ = some (.int .u64 x.h)) (e1 : w.cell? ⟨g, i * 4 + 1, none⟩ = some (.int .u64 x.l)) (e2 : w.cell? ⟨g, i * 4 + 2, none⟩ = some (.int .i64 x.m)) (e3 : w.cell? ⟨g, i * 4 + 3, none⟩ = some (.int .u64 x.s)) :
    Calls Try.prog 23 #[.pointer (some ⟨L, 0, none⟩), .int .i64 i] w fun e w' => e = .returned (.tuple #[.int .u64 x.h, .int .u64 x.l, .int .i64 x.m, .int .u64 x.s]) ∧ Below w.heap.size w w' := by
  go_enter Try.func23, Try.ntmps23
  go_wp2_with fail
  refine (at_i L g size i _ w rfl hs h2 c0 c1).mono ?_
  rintro e w' ⟨rfl, rfl⟩
  go_wp2_with fail
  go_quiet (fail)
  go_wp2_with fail
  try simp only [Exit.inBlock, Exit.then]
  refine bodyPost_ret (results_tmp4 rfl _ _ _) rfl ?_
  exact ⟨rfl, below_drewN (Below.refl _ _) _⟩

set_option maxHeartbeats 400000 in
theorem insert17 (B L : Nat) (a : Option Addr) (g size n i : Nat) (E : Nat → Ent) (eh el em es limit : Int) (w : World) (hs : size ≤ 16384) (hi : i ≤ n) (hcap : Cap limit n size) (h : Ring w B L a g size n E) :
    Calls Try.prog 17 #[.pointer (some ⟨L, 0, none⟩), .int .i64 i, .int .u64 eh, .int .u64 el, .int .i64 em, .int .u64 es, .int .i64 limit] w fun e w' =>
      e = .returned (.tuple #[]) ∧ ∃ a' g' size' E', Ring w' B L a' g' size' (n + 1) E' ∧ Cap limit (n + 1) size' ∧ Ins E E' i n ⟨eh, el, em, es⟩ ∧ Below B w w' := by
  go_enter Try.func17, Try.ntmps17
  go_wp2_with fail
  refine (insert_any B L a g size n i E eh el em es limit w hs hi hcap h).mono ?_
  rintro e w' ⟨rfl, hh⟩
  have HH : Hid _ := hh
  clear hh
  go_wp2_with fail
  go_end0
  exact ⟨rfl, HH.out⟩
end Go.Proofs.Qxb6601511a
