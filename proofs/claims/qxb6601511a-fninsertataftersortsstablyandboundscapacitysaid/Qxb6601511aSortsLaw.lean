import Derived.Test.Qxb6601511aSorts
import Derived.Deep.CutRange
namespace Go.Proofs.Qxb6601511a
open Go.RowKit

theorem Try.info4 : (Try.prog.info? 4).map (fun i => (i.zero, i.size, i.bytes)) = some (some (.bool false), 1, 1) := by kernel_rfl

/-- What stands after k rounds of the first loop. -/
def St (w wr : World) (k : Nat) (limit : Int) (H0 H1 : Nat → Int) : Prop :=
  ∃ a g size E, Ring wr w.heap.size w.heap.size a g size k E ∧ Cap limit k size ∧ Inv H0 H1 k E ∧ Below w.heap.size w wr

theorem St.start (w : World) (limit : Int) (H0 H1 : Nat → Int) : St w (w.alloc (.cells #[.slice none 0 0, .int .i64 0, .int .i64 0] 63)) 0 limit H0 H1 :=
  ⟨none, w.heap.size + 1, 0, fun _ => ⟨0, 0, 0, 0⟩, ⟨by simp, by simp, by simp, fun h => by omega, by omega, Nat.le_refl _, by omega, fun h => by omega, fun o => by simp⟩, ⟨Nat.le_refl _, fun h => by omega, by omega⟩, .zero _ _ _, (Below.refl _ _).alloc (Nat.le_refl _) _⟩

/-- The marks after p rounds of the second loop: what is marked has been met. -/
def Seen (w : World) (S n p : Nat) (E : Nat → Ent) : Prop :=
  ∃ f, w.rowIs S 4 n f ∧ ∀ id, id < n → ∃ b, f id = .bool b ∧ (b = true → ∃ q, q < p ∧ (E q).s = (id : Int) + 1)

theorem Seen.start (w : World) (n : Nat) (E : Nat → Ent) : Seen (w.alloc (.cells (madeCells #[.bool false] n) 4)) w.heap.size n 0 E :=
  ⟨_, World.rowIs_made w (.bool false) n 4, fun id _ => ⟨false, rfl, fun h => by cases h⟩⟩

theorem Seen.step {w : World} {S n p : Nat} {E : Nat → Ent} (h : Seen w S n p E) (id : Nat) (he : (E p).s = (id : Int) + 1) : Seen (w.setCell ⟨S, id, none⟩ (.bool true)) S n (p + 1) E := by
  obtain ⟨f, hf, hv⟩ := h
  refine ⟨_, hf.set id _, fun j hj => ?_⟩
  by_cases e : j = id
  · subst e
    exact ⟨true, if_pos rfl, fun _ => ⟨p, by omega, he⟩⟩
  · obtain ⟨b, hb, hq⟩ := hv j hj
    refine ⟨b, (if_neg e).trans hb, fun h => ?_⟩
    obtain ⟨q, hq1, hq2⟩ := hq h
    exact ⟨q, by omega, hq2⟩

theorem wrap_succ (k : Nat) (h : k ≤ 65536) : IntKind.u64.wrap (IntKind.u64.wrap (k : Int) + 1) = (k : Int) + 1 := by
  rw [IntKind.wrap_u64, IntKind.wrap_u64]
  omega

set_option maxRecDepth 8000 in
set_option maxHeartbeats 2000000 in
theorem sorts_any (a0 a1 : Option Addr) (b0 o0 b1 o1 n0 c0 n1 c1 : Nat) (H0 H1 : Nat → Int) (limit : Int) (w : World) (hn0 : n0 ≤ 9223372036854775807) (hn1 : n1 ≤ 9223372036854775807)
    (hx0 : 0 < n0 → a0 = some ⟨b0, o0, none⟩) (hx1 : 0 < n1 → a1 = some ⟨b1, o1, none⟩)
    (hc0 : ∀ j, j < n0 → w.cell? ⟨b0, o0 + j, none⟩ = some (.int .u64 (H0 j))) (hc1 : ∀ j, j < n1 → w.cell? ⟨b1, o1 + j, none⟩ = some (.int .u64 (H1 j))) :
    Calls Try.prog 6 #[.slice a0 n0 c0, .slice a1 n1 c1, .int .i64 limit] w fun e w' => e = .returned (.bool true) ∧ Below w.heap.size w w' := by
  have HX : Hid (_ ∧ _ ∧ _ ∧ _) := ⟨hx0, hx1, hc0, hc1⟩
  clear hx0 hx1 hc0 hc1
  go_enter Try.func6, Try.ntmps6
  go_wp2_with fail
  refine (bytes19 _ _ _ _ _ _ _ _ hn0 hn1).mono ?_
  rintro e w' ⟨⟨r, rfl⟩, rfl⟩
  cases r
  · go_wp2_with fail
    go_ret
    exact ⟨rfl, Below.refl _ _⟩
  by_cases hb0 : n0 ≤ 4096
  rotate_left
  · go_wp2_with fail
    go_ret
    exact ⟨rfl, Below.refl _ _⟩
  by_cases hb1 : n1 ≤ 4096
  rotate_left
  · go_wp2_with fail
    go_ret
    exact ⟨rfl, Below.refl _ _⟩
  by_cases hnn : n0 = n1
  rotate_left
  · have hnn' : ((n1 : Int) != (n0 : Int)) = true := by simp; omega
    go_wp2_with fail
    go_ret
    exact ⟨rfl, Below.refl _ _⟩
  subst hnn
  go_wp2_with fail
  refine (new20 w).mono ?_
  rintro e w0 ⟨rfl, hw0⟩
  have hst := St.start w limit H0 H1
  rw [← hw0] at hst
  clear hw0
  have HST : Hid _ := hst
  clear hst
  go_wp2_with fail
  go_loopw [9] (fun t wr => ∃ k : Nat, k ≤ n0 ∧ t = .int .i64 k ∧ St w wr k limit H0 H1) (fun t _ => n0 - (intOf t).toNat)
  case atStart => exact ⟨0, Nat.zero_le _, rfl, HST.out⟩
  case round =>
    clear HST
    obtain ⟨k, hk, rfl, a, g, size, E, hR, hC, hI, hB⟩ := hrel
    by_cases hkn : k < n0
    · obtain rfl := HX.out.1 (by omega)
      obtain rfl := HX.out.2.1 (by omega)
      have hsz : size ≤ 16384 := by have := hC.c3; omega
      have hbk0 := World.block_lt_of_cell? _ _ (HX.out.2.2.1 k hkn)
      have hbk1 := World.block_lt_of_cell? _ _ (HX.out.2.2.2 k hkn)
      have g0 := (hB.cell (p := ⟨b0, o0 + k, none⟩) hbk0).trans (HX.out.2.2.1 k hkn)
      have g1 := (hB.cell (p := ⟨b1, o1 + k, none⟩) hbk1).trans (HX.out.2.2.2 k hkn)
      have hLw := hR.lt
      have K11 : Hid (Calls Try.prog 11 #[.pointer (some ⟨w.heap.size, 0, none⟩), .int .u64 (H0 k), .int .u64 (H1 k)] wr.drew fun e w' => ∃ r, Bnd (H0 k) (H1 k) k E r ∧ e = .returned (.int .i64 (r : Nat)) ∧ Below wr.drew.heap.size wr.drew w') :=
        zzafter_ring w.heap.size w.heap.size a g size k E (H0 k) (H1 k) wr.drew (by omega) hC.c1 hR.drew
      have HR : Hid (_ ∧ _ ∧ _ ∧ _) := ⟨hR, hC, hI, hB⟩
      clear hR hC hI hB
      go_upto_region 12 with fail
      go_cut [10] from 44 to 102 (fun s wx => ∃ r : Nat, Bnd (H0 k) (H1 k) k E r ∧ s = .int .i64 r ∧ Below wr.heap.size wr wx)
      case first =>
        go_region_with (go_at_call 11; refine (Hid.out K11).mono ?_; rintro e w2 ⟨r, hr, rfl, hb2⟩)
        all_goals
          go_wp2_with fail
          go_meet
          case rel => exact ⟨r, hr, rfl, ((Below.refl wr.heap.size wr).drew).trans hb2⟩
      case rest =>
        obtain ⟨r, hr, rfl, hb2⟩ := hcut
        obtain ⟨w2, hw2⟩ : ∃ w2, w2 = wc := ⟨_, rfl⟩
        subst hw2
        have hR2 : Ring w2 w.heap.size w.heap.size a g size k E := HR.out.1.after hb2
        have hB2 : Below w.heap.size w w2 := (HR.out.2.2.2).trans (hb2.mono (Nat.le_of_lt hLw))
        clear g0 g1 K11 hb2
        have g0 := (hB2.cell (p := ⟨b0, o0 + k, none⟩) hbk0).trans (HX.out.2.2.1 k hkn)
        have g1 := (hB2.cell (p := ⟨b1, o1 + k, none⟩) hbk1).trans (HX.out.2.2.2 k hkn)
        have K17 : Hid (Calls Try.prog 17 #[.pointer (some ⟨w.heap.size, 0, none⟩), .int .i64 r, .int .u64 (H0 k), .int .u64 (H1 k), .int .i64 1, .int .u64 (IntKind.u64.wrap (IntKind.u64.wrap (k : Int) + 1)), .int .i64 limit] w2.drew fun e w' =>
            e = .returned (.tuple #[]) ∧ ∃ a' g' size' E', Ring w' w.heap.size w.heap.size a' g' size' (k + 1) E' ∧ Cap limit (k + 1) size' ∧ Ins E E' r k ⟨H0 k, H1 k, 1, (k : Int) + 1⟩ ∧ Below w.heap.size w2.drew w') :=
          by
          rw [wrap_succ k (by omega)]
          exact insert17 w.heap.size w.heap.size a g size k r E (H0 k) (H1 k) 1 ((k : Int) + 1) limit w2.drew hsz hr.1 HR.out.2.1 hR2.drew
        have HB : Hid (_ ∧ _) := ⟨hr, hB2⟩
        clear hR2 hB2 hr
        go_upto_region 13 with fail
        go_cut [10] from 44 to 102 (fun s wx => s = .int .i64 r ∧ ∃ a3 g3 s3 E3, Ring wx w.heap.size w.heap.size a3 g3 s3 (k + 1) E3 ∧ Cap limit (k + 1) s3 ∧ Ins E E3 r k ⟨H0 k, H1 k, 1, (k : Int) + 1⟩ ∧ Below w.heap.size w2 wx)
        case first =>
          go_region_with (go_at_call 17; refine (Hid.out K17).mono ?_; rintro e w3 ⟨rfl, a3, g3, s3, E3, hR3, hC3, hI3, hB3⟩)
          all_goals
            go_wp2_with fail
            go_meet
            case rel => exact ⟨rfl, a3, g3, s3, E3, hR3, hC3, hI3, ((Below.refl w.heap.size w2).drew).trans hB3⟩
        case rest =>
          clear K17 g0 g1
          obtain ⟨w3, hw3⟩ : ∃ w3, w3 = wc := ⟨_, rfl⟩
          subst hw3
          obtain ⟨rfl, a3, g3, s3, E3, hR3, hC3, hI3, hB3⟩ := hcut
          have HN : Hid (St w w3 (k + 1) limit H0 H1) := ⟨a3, g3, s3, E3, hR3, hC3, HR.out.2.2.1.step HB.out.1 hI3, HB.out.2.trans hB3⟩
          have c2 : w3.cell? ⟨w.heap.size, 2, none⟩ = some (.int .i64 ((k : Int) + 1)) := hR3.c2
          have c0 := hR3.c0
          have q1 := hC3.c1
          have q2 := hC3.c2
          have q3 := hC3.c3
          clear HR HB hR3 hC3 hI3 hB3
          go_wp2_with fail
          refine (len21 w.heap.size ((k : Int) + 1) w3 c2).mono ?_
          rintro e w' ⟨rfl, rfl⟩
          go_wp2_with fail
          refine (cap22 w.heap.size a3 s3 w3 c0).mono ?_
          rintro e w' ⟨rfl, rfl⟩
          clear c0 c2
          go_wp2_with fail
          all_goals
            go_roundw
            case rel => exact ⟨k + 1, by omega, by go_num, HN.out⟩
            case measure => simp [intOf]; omega
    · have hnk : n0 = k := by omega
      subst hnk
      obtain ⟨w4, hw4⟩ : ∃ w4, w4 = wr := ⟨_, rfl⟩
      subst hw4
      have hmk := run_make_row' (P := Try.prog) 40 4 (.bool false) 1 Try.underlying40 Try.info4 rfl .i64 .i64 n0 (by omega) (by omega)
      have hLw := hR.lt
      have hgw : 0 < size → g < w4.heap.size := fun hs => (hR.row hs).lt
      have hsz : size ≤ 16384 := by have := hC.c3; omega
      have hns := hC.c1
      have HR : Hid (_ ∧ _ ∧ _) := ⟨hR, hI, hB⟩
      clear hR hC hI hB
      go_wp2_with fail
      go_loopw [18, 15, 16, 17] (fun t ph pl ps wx => ∃ p : Nat, p ≤ n0 ∧ t = .int .i64 p ∧ Below w4.heap.size w4 wx ∧ Seen wx w4.heap.size n0 p E ∧ (0 < p → ph = .int .u64 (E (p - 1)).h ∧ pl = .int .u64 (E (p - 1)).l ∧ ps = .int .u64 (E (p - 1)).s)) (fun t _ _ _ _ => n0 - (intOf t).toNat)
      case atStart => exact ⟨0, Nat.zero_le _, rfl, (Below.refl _ _).alloc (Nat.le_refl _) _, Seen.start _ _ _, fun h => by omega⟩
      case round =>
        clear hmk
        obtain ⟨p, hp, rfl, hbel, hseen, hprev⟩ := hrel
        by_cases hpn : p < n0
        · obtain rfl := HX.out.1 (by omega)
          obtain rfl := HX.out.2.1 (by omega)
          obtain ⟨id, hid, es, em, eh, el⟩ := HR.out.2.1.own p hpn
          have hEp : E p = ⟨H0 id, H1 id, 1, (id : Int) + 1⟩ := by rw [← es, ← eh, ← el, ← em]
          clear em eh el
          have hRx : Ring wr w.heap.size w.heap.size a g size n0 E := HR.out.1.after hbel
          obtain rfl := hRx.ha (by omega)
          have k0 := hRx.c0
          have k1 := hRx.c1
          obtain ⟨e0, e1, e2, e3⟩ := (hRx.row (by omega)).cells (j := p) (by omega)
          rw [hEp] at e0 e1 e2 e3
          have K23 : Hid (Calls Try.prog 23 #[.pointer (some ⟨w.heap.size, 0, none⟩), .int .i64 p] wr fun e w' => e = .returned (.tuple #[.int .u64 (H0 id), .int .u64 (H1 id), .int .i64 1, .int .u64 ((id : Int) + 1)]) ∧ Below wr.heap.size wr w') :=
            at23 w.heap.size g size p ⟨H0 id, H1 id, 1, (id : Int) + 1⟩ wr (by omega) (by omega) k0 k1 e0 e1 e2 e3
          have HP : Hid (_ ∧ _ ∧ _) := ⟨hEp, es, hprev⟩
          clear hRx k0 k1 e0 e1 e2 e3 hEp es hprev
          go_wp2_with fail
          refine (Hid.out K23).mono ?_
          rintro e w5 ⟨rfl, hb5⟩
          have hbel5 : Below w4.heap.size w4 w5 := hbel.trans (hb5.mono hbel.size)
          have hB5 : Below w.heap.size w w5 := HR.out.2.2.trans (hbel5.mono (Nat.le_of_lt hLw))
          have hS5 : Seen w5 w4.heap.size n0 p E := by
            obtain ⟨f, hf, hv⟩ := hseen
            exact ⟨f, hf.of_block (hb5.block _ hf.lt), hv⟩
          clear hseen hbel hb5 K23
          have g0 := (hB5.cell (p := ⟨b0, o0 + id, none⟩) (World.block_lt_of_cell? _ _ (HX.out.2.2.1 id hid))).trans (HX.out.2.2.1 id hid)
          have g1 := (hB5.cell (p := ⟨b1, o1 + id, none⟩) (World.block_lt_of_cell? _ _ (HX.out.2.2.2 id hid))).trans (HX.out.2.2.2 id hid)
          have s0 : w5.cell? ⟨w4.heap.size, id, none⟩ = some (.bool false) ∧ w5.frozen? ⟨w4.heap.size, id, none⟩ = false := by
            obtain ⟨f, hf, hv⟩ := hS5
            refine ⟨?_, hf.frozen id⟩
            obtain ⟨b, hb, hq⟩ := hv id hid
            rw [hf.cell hid, hb]
            cases b
            · rfl
            · obtain ⟨q, hq1, hq2⟩ := hq rfl
              have := HR.out.2.1.inj q p (by omega) hpn (hq2.trans HP.out.2.1.symm)
              omega
          obtain ⟨s0, s1⟩ := s0
          have HS : Hid (_ ∧ _) := ⟨hS5.step id HP.out.2.1, hbel5.setCell (p := ⟨w4.heap.size, id, none⟩) (Nat.le_refl _) (.bool true)⟩
          clear hS5 hbel5 hB5
          by_cases hp0 : 0 < p
          · obtain ⟨q, hq⟩ : ∃ q, q + 1 = p := ⟨p - 1, by omega⟩
            obtain ⟨rfl, rfl, rfl⟩ := HP.out.2.2 hp0
            have hadj := HR.out.2.1.adj q (by omega)
            rw [hq, HP.out.1] at hadj
            rw [show p - 1 = q from by omega]
            obtain ⟨z1, z2⟩ := hadj
            have K13 := zzless_any (H0 id) (H1 id) (E q).h (E q).l
            rw [show lt2 (H0 id) (H1 id) (E q).h (E q).l = false from z1] at K13
            have KK : Hid (∀ W, Calls Try.prog 13 #[.int .u64 (H0 id), .int .u64 (H1 id), .int .u64 (E q).h, .int .u64 (E q).l] W fun e w' => e = .returned (.bool false) ∧ W = w') := K13
            have z2' : H0 id = (E q).h → H1 id = (E q).l → (E q).s < (id : Int) + 1 := z2
            clear z1 z2 K13
            go_wp2_with fail
            refine (Hid.out KK _).mono ?_
            rintro e w' ⟨rfl, rfl⟩
            clear KK
            by_cases t1 : H0 id = (E q).h
            · by_cases t2 : H1 id = (E q).l
              · have t3 := z2' t1 t2
                have t1b : (H0 id == (E q).h) = true := by simp [t1]
                have t2b : (H1 id == (E q).l) = true := by simp [t2]
                clear z2' t1 t2
                go_wp2_with fail
                go_roundw
                case rel => exact ⟨p + 1, by omega, by go_num, HS.out.2, HS.out.1, fun _ => by rw [Nat.add_sub_cancel, HP.out.1]; exact ⟨rfl, rfl, rfl⟩⟩
                case measure => simp [intOf]; omega
              · have t1b : (H0 id == (E q).h) = true := by simp [t1]
                have t2b : (H1 id == (E q).l) = false := by simp [t2]
                clear z2' t1 t2
                go_wp2_with fail
                go_roundw
                case rel => exact ⟨p + 1, by omega, by go_num, HS.out.2, HS.out.1, fun _ => by rw [Nat.add_sub_cancel, HP.out.1]; exact ⟨rfl, rfl, rfl⟩⟩
                case measure => simp [intOf]; omega
            · have t1b : (H0 id == (E q).h) = false := by simp [t1]
              clear z2' t1
              go_wp2_with fail
              go_roundw
              case rel => exact ⟨p + 1, by omega, by go_num, HS.out.2, HS.out.1, fun _ => by rw [Nat.add_sub_cancel, HP.out.1]; exact ⟨rfl, rfl, rfl⟩⟩
              case measure => simp [intOf]; omega
          · clear HR
            go_wp2_with fail
            go_roundw
            case rel => exact ⟨p + 1, by omega, by go_num, HS.out.2, HS.out.1, fun _ => by rw [Nat.add_sub_cancel, HP.out.1]; exact ⟨rfl, rfl, rfl⟩⟩
            case measure => simp [intOf]; omega
        · go_wp2_with fail
          go_ret
          exact ⟨rfl, HR.out.2.2.trans (hbel.mono (Nat.le_of_lt hLw))⟩
end Go.Proofs.Qxb6601511a
