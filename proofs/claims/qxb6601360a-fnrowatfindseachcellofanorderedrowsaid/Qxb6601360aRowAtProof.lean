/-
  THE PROOF OF 'Rows.FnRowAtFindsEachCellOfAnOrderedRowSaid'. The walk lies in Qxb6601360aLaw.lean; here the argument, a slice of structs of two one-cell fields, is opened and read again behind the call.
-/
import Derived.Test.Qxb6601360aLaw
import Derived.ProofKit
import Derived.OpenShut
import Derived.ShutString
import Derived.ChangeOld
import Derived.Below
import Derived.Deep.SlicePairs
namespace Go.Proofs.Qxb6601360a.rowAt
open Go.ChangeShapes Go.WideShapes Go.ChangeAt Go.RowKit

theorem own : ownKnob Try.prog.godebug = none := by kernel_rfl
theorem laidOut : laidOutB Try.prog = true := by kernel_rfl

/-- WHAT THE WALK IS TOLD OF THE SLICE OF CELLS. -/
def IsCells (w : World) (a : Option Addr) (len : Nat) (b off : Nat) (C : Nat → Int) (T : Nat → ByteArray) : Prop :=
  (0 < len → a = some ⟨b, off, none⟩) ∧ (∀ k, k < len → w.cell? ⟨b, off + k * 2, none⟩ = some (.int .i64 (C k))) ∧ (∀ k, k < len → w.cell? ⟨b, off + k * 2 + 1, none⟩ = some (.string (T k)))

theorem walk (n0 : Int) (a : Option Addr) (len cap b off : Nat) (C : Nat → Int) (T : Nat → ByteArray) (n2 : Int) (w : World) (hl : len ≤ maxLen) (h : IsCells w a len b off C T) :
    Calls Try.prog 3 #[.int .i64 n0, .slice a len cap, .int .i64 n2] w fun e w' => e = .returned (.bool true) ∧ Below w.heap.size w w' := by
  obtain ⟨ha, hc0, hc1⟩ := h
  unfold maxLen at hl
  by_cases hi : n2 < 0 ∨ (len : Int) ≤ n2
  · exact law_out n0 n2 a b off len cap T w hl ha hc1 hi
  · obtain ⟨i, rfl⟩ := Int.eq_ofNat_of_zero_le (show 0 ≤ n2 by omega)
    have hi' : i < len := by omega
    obtain rfl := ha (by omega)
    exact law_in n0 b off len cap i C T w hl hc0 hc1 hi'

set_option maxRecDepth 100000 in
theorem lifted (os : Os) (started : os.Started) (H : Type) (enc : TypeId × Value → H) :
    ReturnsInHanded {} Try.checked os 3 .any (Rows.fnRowAtFindsEachCellOfAnOrderedRowSpec.pre6 enc Try.prog Try.f3 Rows.fnRowAtFindsEachCellOfAnOrderedRowRow.domain false) (Rows.fnRowAtFindsEachCellOfAnOrderedRowSpec.post enc Try.prog Try.f3 false true false false) := by
  refine returnsInHanded_of_change (C := Try.checked) own started (by kernel_rfl) Try.func3
    (ChangeSpec.witness6 (enc := enc) (C := Try.checked) false ⟨#[], #[.int .i64 0, .slice none 0 0, .int .i64 0], []⟩ 8 (by kernel_rfl) (by kernel_rfl) (by kernel_rfl) (by kernel_rfl)) ?_
  intro W base args ds gs before hval0 hW hcnd _
  have hval : ∀ (j : Nat) t v, Try.f3.params[j]? = some t → args[j]? = some v → Value.okWide Try.prog W .any base t v := hval0
  have hW' := hW
  obtain ⟨p, q, hA0, hV, rfl, hfz, hnd⟩ := hW
  have hA : DataW.TrodAll enc Try.prog W 0 (fun _ => true) true Try.f3.params.toList args.toList ds p := hA0
  rw [Try.params3] at hA hval
  obtain ⟨v0, vs0, d0, ds0, p0, q0, hargs, rfl, rfl, h0, r0⟩ := trodAll_cons hA
  obtain ⟨v1, vs1, d1, ds1, p1, q1, rfl, rfl, rfl, h1, r1⟩ := trodAll_cons r0
  obtain ⟨v2, vs2, d2, ds2, p2, q2, rfl, rfl, rfl, h2, r2⟩ := trodAll_cons r1
  obtain ⟨rfl, rfl, rfl⟩ := trodAll_nil r2
  obtain rfl : args = #[v0, v1, v2] := by cases args; simp_all
  obtain ⟨rfl, rfl⟩ := trodVars_none hV
  obtain ⟨n0, rfl, rfl, rfl, w0⟩ := open_int Try.underlying3 (hval 0 3 v0 rfl rfl) h0
  obtain ⟨a1, len1, cap1, rfl⟩ := okWide_slice Try.underlying22 (hval 1 22 v1 rfl rfl)
  have k1 := h1
  have lt1 : ∀ x ∈ p1, x.block < W.heap.size := by obtain ⟨m, hm⟩ := k1; exact DataW.trod_lt m _ _ _ hm
  obtain ⟨hl1, b, off, C, T, hz⟩ : len1 ≤ maxLen ∧ ∃ b off C T, IsCells W a1 len1 b off C T := by
    obtain ⟨fuel, hf⟩ := h1
    rcases Deep.open_slice_pairs Try.underlying22 Try.underlying26 (by kernel_rfl) rfl rfl (by kernel_rfl) (by kernel_rfl) hf with ⟨hcs, _⟩ | ⟨x, len, cap, m, n, V0, V1, D0, D1, P0, P1, hcs, _, hl, hm, hmm, _, hx⟩
    · simp [Value.cells] at hcs
      obtain ⟨rfl, rfl, rfl⟩ := hcs
      exact ⟨Nat.zero_le _, 0, 0, fun _ => 0, fun _ => ByteArray.empty, fun h => by omega, fun k h => by omega, fun k h => by omega⟩
    · simp [Value.cells] at hcs
      obtain ⟨rfl, rfl, rfl⟩ := hcs
      have hmc : m = cap1 := by simpa using hmm
      have each : ∀ i, i < len1 → ∃ y : Int × ByteArray, W.cell? (x.add (i * 2)) = some (.int .i64 y.1) ∧ W.cell? (x.add (i * 2 + 1)) = some (.string y.2) := by
        intro i hi
        obtain ⟨e0, e1, t0, t1⟩ := hx i (by omega)
        obtain ⟨c, hc, _, _⟩ := DataW.trod_int Try.underlying3 t0
        obtain ⟨s, hs, _, _⟩ := DataW.trod_string Try.underlying9 t1
        simp only [List.cons.injEq, and_true] at hc hs
        exact ⟨(c, s), by rw [e0, hc], by rw [e1, hs]⟩
      obtain ⟨y, hy⟩ := Deep.choose_lt each
      obtain ⟨b, off, spot⟩ := x
      refine ⟨by omega, b, off, fun i => (y i).1, fun i => (y i).2, fun h => ?_, fun k hk => ?_, fun k hk => ?_⟩
      · have hspot : spot = none := by simpa [Addr.add] using World.cell?_spot (hy 0 h).1
        rw [hspot]
      · have hspot : spot = none := by simpa [Addr.add] using World.cell?_spot (hy 0 (by omega)).1
        have g := (hy k hk).1
        rw [hspot, add_plain] at g
        exact g
      · have hspot : spot = none := by simpa [Addr.add] using World.cell?_spot (hy 0 (by omega)).1
        have g := (hy k hk).2
        rw [hspot, add_plain] at g
        exact g
  obtain ⟨n2, rfl, rfl, rfl, w2⟩ := open_int Try.underlying3 (hval 2 3 v2 rfl rfl) h2
  clear hA0 hval0
  refine (walk n0 a1 len1 cap1 b off C T n2 W hl1 hz).mono fun e W' ⟨he, bel⟩ => ?_
  subst he
  exact ⟨_, rfl, _, _, _, [], _, [], hW', trodAll_mk1 (shut_bool Try.underlying4 _), (trodAll_cons_mk (shut_int Try.underlying3 w0) (trodAll_cons_mk (Below.trod laidOut (by kernel_rfl) (of_decide_eq_true (by kernel_rfl)) k1 bel lt1) (trodAll_cons_mk (shut_int Try.underlying3 w2) trodAll_mk0))), rfl, bel.frame _, fun h => by cases h⟩

theorem over : Rows.fnRowAtFindsEachCellOfAnOrderedRowRow.holds Try.pinned (OpenSpec.ofChange Rows.fnRowAtFindsEachCellOfAnOrderedRowSpec) :=
  OpenClaim.holds_of_wide 3 Try.f3 rfl rfl rfl rfl rfl rfl rfl ⟨rfl, rfl, rfl, rfl, rfl⟩ rfl rfl rfl rfl rfl (by kernel_rfl) Try.func3 (by kernel_rfl)
    (of_decide_eq_true (by kernel_rfl)) (by unfold Func.isWrapper; first | (rw [if_pos (by decide +kernel)]; kernel_rfl) | (rw [if_neg (by decide +kernel)]; exact ⟨rfl, rfl⟩))
    (fun os started H enc _ => lifted os started H enc)

/-- THE STATEMENT -/
theorem proved : Rows.FnRowAtFindsEachCellOfAnOrderedRowSaid := over
#print axioms proved
end Go.Proofs.Qxb6601360a.rowAt
