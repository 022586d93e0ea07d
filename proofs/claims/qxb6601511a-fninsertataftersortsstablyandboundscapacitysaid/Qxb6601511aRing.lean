import Derived.Test.Qxb6601511aBuild
namespace Go.Proofs.Qxb6601511a
open Go.RowKit

/-- One entry of the log. -/
structure Ent where
  h : Int
  l : Int
  m : Int
  s : Int

/-- The places of a log as a row of entries. -/
def RowE (w : World) (g size : Nat) (E : Nat → Ent) : Prop :=
  ∃ f, w.rowIs g 61 (size * 4) f ∧ ∀ j, j < size → f (j * 4) = .int .u64 (E j).h ∧ f (j * 4 + 1) = .int .u64 (E j).l ∧ f (j * 4 + 2) = .int .i64 (E j).m ∧ f (j * 4 + 3) = .int .u64 (E j).s

/-- Entry k replaced. -/
def putE (E : Nat → Ent) (k : Nat) (e : Ent) : Nat → Ent := fun j => if j = k then e else E j

theorem RowE.set {w : World} {g size : Nat} {E : Nat → Ent} (h : RowE w g size E) (k : Nat) (e : Ent) :
    RowE ((((w.setCell ⟨g, k * 4, none⟩ (.int .u64 e.h)).setCell ⟨g, k * 4 + 1, none⟩ (.int .u64 e.l)).setCell ⟨g, k * 4 + 2, none⟩ (.int .i64 e.m)).setCell ⟨g, k * 4 + 3, none⟩ (.int .u64 e.s)) g size (putE E k e) := by
  obtain ⟨f, hf, hv⟩ := h
  refine ⟨_, ((((hf.set (k * 4) _).set (k * 4 + 1) _).set (k * 4 + 2) _).set (k * 4 + 3) _), fun j hj => ?_⟩
  unfold putE
  by_cases e : j = k
  · subst e
    rw [if_pos rfl]
    refine ⟨?_, ?_, ?_, ?_⟩
    · rw [if_neg (by omega), if_neg (by omega), if_neg (by omega), if_pos rfl]
    · rw [if_neg (by omega), if_neg (by omega), if_pos rfl, if_pos rfl]
    · rw [if_neg (by omega), if_pos rfl, if_pos rfl]
    · rw [if_pos rfl, if_pos rfl]
  · have := hv j hj
    rw [if_neg e]
    refine ⟨?_, ?_, ?_, ?_⟩
    · rw [if_neg (by omega), if_neg (by omega), if_neg (by omega), if_neg (by omega)]; exact this.1
    · rw [if_neg (by omega), if_neg (by omega), if_neg (by omega), if_neg (by omega)]; exact this.2.1
    · rw [if_neg (by omega), if_neg (by omega), if_neg (by omega), if_neg (by omega)]; exact this.2.2.1
    · rw [if_neg (by omega), if_neg (by omega), if_neg (by omega), if_neg (by omega)]; exact this.2.2.2

theorem RowE.other {w : World} {g size : Nat} {E : Nat → Ent} (h : RowE w g size E) {a : Addr} (ha : g ≠ a.block) (v : Value) : RowE (w.setCell a v) g size E := by
  obtain ⟨f, hf, hv⟩ := h
  exact ⟨f, hf.setOther ha v, hv⟩

theorem RowE.drew {w : World} {g size : Nat} {E : Nat → Ent} (h : RowE w g size E) : RowE w.drew g size E := h

theorem RowE.lt {w : World} {g size : Nat} {E : Nat → Ent} (h : RowE w g size E) : g < w.heap.size := by
  obtain ⟨f, hf, _⟩ := h
  exact hf.lt

theorem RowE.on {w w' : World} {g size : Nat} {E : Nat → Ent} (h : RowE w g size E) {B : Nat} (hb : Below B w w') (hg : g < B) : RowE w' g size E := by
  obtain ⟨f, hf, hv⟩ := h
  exact ⟨f, hf.of_block (hb.block g hg), hv⟩

theorem RowE.made (w : World) (m : Nat) : ∃ E, RowE (w.alloc (.cells (madeCells (Value.agg #[.int .u64 0, .int .u64 0, .int .i64 0, .int .u64 0]).cells (m * 4)) 61)) w.heap.size m E := by
  refine ⟨fun _ => ⟨0, 0, 0, 0⟩, fun i => #[Value.int .u64 0, .int .u64 0, .int .i64 0, .int .u64 0][i % 4]!, ⟨_, Deep.blk_alloc_new _ _, size_madeCells _ _, fun i hi => by simp [madeCells, hi, Value.cells]⟩, fun j hj => ?_⟩
  refine ⟨?_, ?_, ?_, ?_⟩
  · show #[Value.int .u64 0, .int .u64 0, .int .i64 0, .int .u64 0][j * 4 % 4]! = _
    rw [show j * 4 % 4 = 0 from by omega]; rfl
  · show #[Value.int .u64 0, .int .u64 0, .int .i64 0, .int .u64 0][(j * 4 + 1) % 4]! = _
    rw [show (j * 4 + 1) % 4 = 1 from by omega]; rfl
  · show #[Value.int .u64 0, .int .u64 0, .int .i64 0, .int .u64 0][(j * 4 + 2) % 4]! = _
    rw [show (j * 4 + 2) % 4 = 2 from by omega]; rfl
  · show #[Value.int .u64 0, .int .u64 0, .int .i64 0, .int .u64 0][(j * 4 + 3) % 4]! = _
    rw [show (j * 4 + 3) % 4 = 3 from by omega]; rfl

theorem RowE.cells {w : World} {g size : Nat} {E : Nat → Ent} (h : RowE w g size E) {j : Nat} (hj : j < size) :
    w.cell? ⟨g, j * 4, none⟩ = some (.int .u64 (E j).h) ∧ w.cell? ⟨g, j * 4 + 1, none⟩ = some (.int .u64 (E j).l) ∧ w.cell? ⟨g, j * 4 + 2, none⟩ = some (.int .i64 (E j).m) ∧ w.cell? ⟨g, j * 4 + 3, none⟩ = some (.int .u64 (E j).s) := by
  obtain ⟨f, hf, hv⟩ := h
  have := hv j hj
  refine ⟨?_, ?_, ?_, ?_⟩
  · rw [hf.cell (by omega), this.1]
  · rw [hf.cell (by omega), this.2.1]
  · rw [hf.cell (by omega), this.2.2.1]
  · rw [hf.cell (by omega), this.2.2.2]

/-- A log whose first entry lies at place 0; the struct at block L, its places at block g (where there are any). -/
structure Ring (w : World) (B L : Nat) (a : Option Addr) (g size n : Nat) (E : Nat → Ent) : Prop where
  c0 : w.cell? ⟨L, 0, none⟩ = some (.slice a size size)
  c1 : w.cell? ⟨L, 1, none⟩ = some (.int .i64 0)
  c2 : w.cell? ⟨L, 2, none⟩ = some (.int .i64 n)
  ha : 0 < size → a = some ⟨g, 0, none⟩
  ne : L ≠ g
  bL : B ≤ L
  bg : B ≤ g
  row : 0 < size → RowE w g size E
  fz : ∀ o, w.frozen? ⟨L, o, none⟩ = false

theorem Ring.on {w w' : World} {B L : Nat} {a : Option Addr} {g size n : Nat} {E : Nat → Ent} (h : Ring w B L a g size n E) {C : Nat} (hb : Below C w w') (hL : L < C) (hg : 0 < size → g < C) : Ring w' B L a g size n E :=
  ⟨(hb.cell (p := ⟨L, 0, none⟩) hL).trans h.c0, (hb.cell (p := ⟨L, 1, none⟩) hL).trans h.c1, (hb.cell (p := ⟨L, 2, none⟩) hL).trans h.c2, h.ha, h.ne, h.bL, h.bg, fun hs => (h.row hs).on hb (hg hs), fun o => (hb.frozen (p := ⟨L, o, none⟩) hL).trans (h.fz o)⟩

theorem Ring.lt {w : World} {B L : Nat} {a : Option Addr} {g size n : Nat} {E : Nat → Ent} (h : Ring w B L a g size n E) : L < w.heap.size := World.block_lt_of_cell? _ _ h.c0

theorem Ring.after {w w' : World} {B L : Nat} {a : Option Addr} {g size n : Nat} {E : Nat → Ent} (h : Ring w B L a g size n E) (hb : Below w.heap.size w w') : Ring w' B L a g size n E :=
  h.on hb h.lt fun hs => (h.row hs).lt

theorem at_i (L g size i : Nat) (x : Int) (w : World) (hx : x = (i : Int)) (hs : size ≤ 65536) (h2 : i < size)
    (c0 : w.cell? ⟨L, 0, none⟩ = some (.slice (some ⟨g, 0, none⟩) size size)) (c1 : w.cell? ⟨L, 1, none⟩ = some (.int .i64 0)) :
    Calls Try.prog 32 #[.pointer (some ⟨L, 0, none⟩), .int .i64 x] w fun e w' => e = .returned (.pointer (some ⟨g, i * 4, none⟩)) ∧ w = w' := by
  subst hx
  have := at_any L g size 0 i w hs (by omega) h2 c0 c1
  rwa [show pl size 0 i = i from by unfold pl; rw [if_pos (by omega)]; omega] at this

/-- What after answers of a row of entries. -/
def Bnd (ah al : Int) (n : Nat) (E : Nat → Ent) (r : Nat) : Prop :=
  r ≤ n ∧ (0 < r → lt2 ah al (E (r - 1)).h (E (r - 1)).l = false) ∧ (r < n → lt2 ah al (E r).h (E r).l = true)

theorem zzafter_ring (B L : Nat) (a : Option Addr) (g size n : Nat) (E : Nat → Ent) (ah al : Int) (w : World) (hs : size ≤ 65536) (hn : n ≤ size) (h : Ring w B L a g size n E) :
    Calls Try.prog 11 #[.pointer (some ⟨L, 0, none⟩), .int .u64 ah, .int .u64 al] w fun e w' => ∃ r, Bnd ah al n E r ∧ e = .returned (.int .i64 (r : Nat)) ∧ Below w.heap.size w w' := by
  by_cases h0 : n = 0
  · subst h0
    refine (zzafter_zero L ah al w h.c2).mono ?_
    rintro e w' ⟨rfl, hb⟩
    exact ⟨0, ⟨Nat.le_refl _, fun h => by omega, fun h => by omega⟩, rfl, hb⟩
  · obtain rfl := h.ha (by omega)
    have hr := h.row (by omega)
    have hlog : Log w L g size 0 n (fun j => (E j).h) (fun j => (E j).l) := ⟨h.c0, h.c1, h.c2, fun j hj => (hr.cells hj).1, fun j hj => (hr.cells hj).2.1⟩
    refine (zzafter_any L g size 0 n _ _ ah al w hs (by omega) hn hlog).mono ?_
    rintro e w' ⟨r, ⟨h1, h2, h3⟩, rfl, hb⟩
    have hp : ∀ i, i < size → pl size 0 i = i := fun i hi => by unfold pl; rw [if_pos (by omega)]; omega
    refine ⟨r, ⟨h1, fun h => ?_, fun h => ?_⟩, rfl, hb⟩
    · have := h2 h
      rwa [later, hp _ (by omega)] at this
    · have := h3 h
      rwa [later, hp _ (by omega)] at this

/-- The bounds on capacity. -/
structure Cap (limit : Int) (n size : Nat) : Prop where
  c1 : n ≤ size
  c2 : (n : Int) ≤ limit → (size : Int) ≤ limit
  c3 : size ≤ 1 ∨ size + 2 ≤ 2 * n

/-- The entries after an insertion of e at place i. -/
def Ins (E E' : Nat → Ent) (i n : Nat) (e : Ent) : Prop :=
  (∀ j, j < i → E' j = E j) ∧ E' i = e ∧ ∀ j, i < j → j ≤ n → E' j = E (j - 1)

/-- What stands after k insertions: each entry is an event of its own; neighbours lie in order. -/
structure Inv (H0 H1 : Nat → Int) (k : Nat) (E : Nat → Ent) : Prop where
  own : ∀ p, p < k → ∃ id : Nat, id < k ∧ (E p).s = (id : Int) + 1 ∧ (E p).m = 1 ∧ (E p).h = H0 id ∧ (E p).l = H1 id
  inj : ∀ p q, p < k → q < k → (E p).s = (E q).s → p = q
  adj : ∀ p, p + 1 < k → lt2 (E (p + 1)).h (E (p + 1)).l (E p).h (E p).l = false ∧ ((E (p + 1)).h = (E p).h → (E (p + 1)).l = (E p).l → (E p).s < (E (p + 1)).s)

theorem lt2_irrefl (a b : Int) : lt2 a b a b = false := by simp [lt2]

theorem lt2_asymm {a b c d : Int} (h : lt2 a b c d = true) : lt2 c d a b = false := by
  unfold lt2 at h ⊢
  by_cases e : a = c
  · rw [if_pos e] at h
    rw [if_pos e.symm]
    simp at h ⊢; omega
  · rw [if_neg e] at h
    rw [if_neg (fun h => e h.symm)]
    simp at h ⊢; omega

theorem Inv.zero (H0 H1 : Nat → Int) (E : Nat → Ent) : Inv H0 H1 0 E := ⟨fun p h => by omega, fun p q h => by omega, fun p h => by omega⟩

theorem Inv.step {H0 H1 : Nat → Int} {k : Nat} {E E' : Nat → Ent} {r : Nat} (h : Inv H0 H1 k E) (hb : Bnd (H0 k) (H1 k) k E r) (hi : Ins E E' r k ⟨H0 k, H1 k, 1, (k : Int) + 1⟩) : Inv H0 H1 (k + 1) E' := by
  obtain ⟨b1, b2, b3⟩ := hb
  obtain ⟨i1, i2, i3⟩ := hi
  refine ⟨fun p hp => ?_, fun p q hp hq he => ?_, fun p hp => ?_⟩
  · rcases Nat.lt_trichotomy p r with c | c | c
    · rw [i1 p c]
      obtain ⟨id, hid, h'⟩ := h.own p (by omega)
      exact ⟨id, by omega, h'⟩
    · subst c
      rw [i2]
      exact ⟨k, by omega, rfl, rfl, rfl, rfl⟩
    · rw [i3 p c (by omega)]
      obtain ⟨id, hid, h'⟩ := h.own (p - 1) (by omega)
      exact ⟨id, by omega, h'⟩
  · have hn : ∀ p, p < k → (E p).s ≠ (k : Int) + 1 := fun p hp => by
      obtain ⟨id, hid, h', _⟩ := h.own p hp
      omega
    rcases Nat.lt_trichotomy p r with c | c | c
    · rw [i1 p c] at he
      rcases Nat.lt_trichotomy q r with d | d | d
      · rw [i1 q d] at he
        exact h.inj p q (by omega) (by omega) he
      · subst d
        rw [i2] at he
        exact absurd he (hn p (by omega))
      · rw [i3 q d (by omega)] at he
        have := h.inj p (q - 1) (by omega) (by omega) he
        omega
    · subst c
      rw [i2] at he
      rcases Nat.lt_trichotomy q p with d | d | d
      · rw [i1 q d] at he
        exact absurd he.symm (hn q (by omega))
      · exact d.symm
      · rw [i3 q d (by omega)] at he
        exact absurd he.symm (hn (q - 1) (by omega))
    · rw [i3 p c (by omega)] at he
      rcases Nat.lt_trichotomy q r with d | d | d
      · rw [i1 q d] at he
        have := h.inj (p - 1) q (by omega) (by omega) he
        omega
      · subst d
        rw [i2] at he
        exact absurd he (hn (p - 1) (by omega))
      · rw [i3 q d (by omega)] at he
        have := h.inj (p - 1) (q - 1) (by omega) (by omega) he
        omega
  · by_cases c1 : p + 1 < r
    · rw [i1 _ c1, i1 p (by omega)]
      exact h.adj p (by omega)
    · by_cases c2 : p + 1 = r
      · subst c2
        rw [i2, i1 p (by omega)]
        refine ⟨b2 (by omega), fun _ _ => ?_⟩
        obtain ⟨id, hid, h', _⟩ := h.own p (by omega)
        show (E p).s < (k : Int) + 1
        omega
      · by_cases c3 : p = r
        · subst c3
          rw [i2, i3 (p + 1) (by omega) (by omega), Nat.add_sub_cancel]
          have hb := b3 (by omega)
          refine ⟨lt2_asymm hb, fun e1 e2 => ?_⟩
          have e1' : (E p).h = H0 k := e1
          have e2' : (E p).l = H1 k := e2
          rw [e1', e2', lt2_irrefl] at hb
          exact absurd hb (by simp)
        · obtain ⟨q, rfl⟩ : ∃ q, p = q + 1 := ⟨p - 1, by omega⟩
          rw [i3 (q + 1 + 1) (by omega) (by omega), i3 (q + 1) (by omega) (by omega), Nat.add_sub_cancel, Nat.add_sub_cancel]
          exact h.adj q (by omega)
end Go.Proofs.Qxb6601511a
