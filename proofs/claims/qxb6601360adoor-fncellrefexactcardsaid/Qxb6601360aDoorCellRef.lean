import Derived.Test.Qxb6601360aDoorShelf
import Derived.Test.Qxb6601360aDoorPlain
import Derived.WalkKit
import Derived.WalkSpells
import Derived.WalkLawsBesides
import Derived.Laws.AppendOwnNone
import Derived.Deep.QuietTactic
import Derived.BigQuiet
import Derived.Deep.RegionWith
import Derived.Lib.SlBytesConst
import Derived.Lib.SmallJoins
import Derived.ShutString
namespace Go.Proofs.Qxb6601360aDoor
open Go.RowKit
open Go.WideShapes (add_plain)

theorem Tryd.info5 : (Tryd.prog.info? 5).map (fun i => (i.zero, i.size, i.bytes)) = some (some (.int .u8 0), 1, 1) := by kernel_rfl

/-- A byte's cell. -/
def byteV (d : UInt8) : Value := .int .u8 (d.toNat : Int)

/-- The letter that a round lays ahead. -/
def letter (k : Int) : UInt8 := UInt8.ofNat (65 + (k.toNat - 1) % 26)

theorem letter_nat (k : Int) : (letter k).toNat = 65 + (k.toNat - 1) % 26 := by
  unfold letter
  rw [UInt8.toNat_ofNat']
  omega

theorem letter_byte (k : Int) (h : 0 < k) : byteV (letter k) = .int .u8 (65 + (k - 1) % 26) := by
  unfold byteV
  rw [letter_nat]
  congr 1
  omega

/-- What a round does to the numbers. -/
theorem round_plain {k c : Int} {l : List UInt8} (h : 0 < k) (hc : c ≤ 9223372036854775807) (hl : Letters l) (hv : k.toNat * 26 ^ l.length + val l = c.toNat) :
    Letters (letter k :: l) ∧ ((k - 1) / 26).toNat * 26 ^ (letter k :: l).length + val (letter k :: l) = c.toNat ∧ (letter k :: l).length ≤ 14 := by
  have hn := letter_nat k
  refine ⟨.cons (by rw [hn]; omega) hl, ?_, ?_⟩
  · have e : ((k - 1) / 26).toNat = (k.toNat - 1) / 26 := by omega
    rw [e, val_cons k.toNat l (by omega) (letter k) hn, hv]
  · have := len_lt (n := l.length) (m := val l) (c := k.toNat) (by omega) (by omega)
    simp; omega

theorem cells_of_own {w : World} {B g cap : Nat} {l : List UInt8} (h : w.ownsRow B 5 1 (.slice (some ⟨g, 0, none⟩) l.length cap) l.length (l.map byteV)) (j : Nat) (hj : j < l.length) :
    w.cell? ((⟨g, 0, none⟩ : Addr).add j) = some (.int .u8 (l[j].toNat : Int)) :=
  h.cells (g := g) rfl j _ (by simp [hj, byteV])

theorem own_cons {w : World} {B : Nat} {v : Value} {l : List UInt8} {k : Int} (hk : 0 < k) (h : w.ownsRow B 5 1 v (1 + l.length) (.int .u8 (65 + (k - 1) % 26) :: l.map byteV)) :
    w.ownsRow B 5 1 v (letter k :: l).length ((letter k :: l).map byteV) := by
  rw [List.map_cons, letter_byte k hk, List.length_cons, Nat.add_comm]
  exact h

/-- 'string(letters)' in a world in which the letters lie. -/
theorem conv_own (W : World) (g cap : Nat) (l : List UInt8) (hc : ∀ j (hj : j < l.length), W.cell? ((⟨g, 0, none⟩ : Addr).add j) = some (.int .u8 (l[j].toNat : Int))) :
    (convert 29 9 (.slice (some ⟨g, 0, none⟩) l.length cap)).run Tryd.prog W = .ok (.string ⟨l.toArray⟩) W :=
  run_convert_bytes_back (P := Tryd.prog) W 29 9 5 ⟨g, 0, none⟩ cap l Tryd.underlying29 Tryd.underlying5 Tryd.underlying9 hc

theorem cells_at {W1 W : World} (h : Below W1.heap.size W1 W) {g : Nat} {l : List UInt8} (hg : g < W1.heap.size) (hc : ∀ j (hj : j < l.length), W1.cell? ((⟨g, 0, none⟩ : Addr).add j) = some (.int .u8 (l[j].toNat : Int))) :
    ∀ j (hj : j < l.length), W.cell? ((⟨g, 0, none⟩ : Addr).add j) = some (.int .u8 (l[j].toNat : Int)) := fun j hj => by
  rw [← hc j hj]
  refine h.cell (p := (⟨g, 0, none⟩ : Addr).add j) ?_
  rw [add_plain]; exact hg

theorem bytes_append (a b : List UInt8) : (⟨a.toArray⟩ ++ ⟨b.toArray⟩ : ByteArray) = ⟨(a ++ b).toArray⟩ := by
  apply ByteArray.ext
  simp [ByteArray.data_append]

set_option maxHeartbeats 400000 in
theorem cellRef_any (c row : Int) (it : List UInt8) (w : World) (hc : c ≤ 9223372036854775807) (hitl : it.length ≤ 100)
    (hit : Hid (∀ W, Below w.heap.size w W → Calls Tryd.prog 11 #[.int .i64 row] W fun e w' => e = .returned (.string ⟨it.toArray⟩) ∧ Below W.heap.size W w')) :
    Calls Tryd.prog 10 #[.int .i64 c, .int .i64 row] w fun e w' => ∃ l : List UInt8, Letters l ∧ val l = c.toNat ∧ l.length ≤ 14 ∧ e = .returned (.string ⟨(colPart l ++ it).toArray⟩) ∧ Below w.heap.size w w' := by
  obtain ⟨i0, hi, hz0, hz1, hz2⟩ := info_parts Tryd.info5
  go_enter Tryd.func10, Tryd.ntmps10
  go_wp2
  go_loopw [0, 5] (fun t v wr => ∃ (k : Int) (l : List UInt8), t = .int .i64 k ∧ k ≤ 9223372036854775807 ∧ Letters l ∧ k.toNat * 26 ^ l.length + val l = c.toNat ∧ l.length ≤ 14 ∧ wr.ownsRow w.heap.size 5 1 v l.length (l.map byteV) ∧ (l = [] → v = .slice none 0 0) ∧ Below w.heap.size w wr) (fun t _ _ => (intOf t).toNat)
  case atStart => exact ⟨c, [], rfl, hc, .nil, by simp [val], by simp, World.ownsRow_nil _ _ _ _, fun _ => rfl, Below.refl _ _⟩
  case round =>
    obtain ⟨k, l, rfl, hk, hl, hv, hlen, hown, hnil, hbel⟩ := hrel
    have hsz := hbel.size
    by_cases hpos : 0 < k
    · obtain ⟨r1, r2, r3⟩ := round_plain hpos hc hl hv
      have HR : Hid (_ ∧ _) := ⟨r1, r2⟩
      clear hv r1 r2
      cases l with
      | nil =>
        obtain rfl := hnil rfl
        have hnew : (wr.alloc (.cells #[.int .u8 (65 + (k - 1) % 26)] 5)).ownsRow w.heap.size 5 1 (.slice (some ⟨wr.heap.size, 0, none⟩) 1 1) 1 [.int .u8 (65 + (k - 1) % 26)] := World.ownsRow_lit wr #[.int .u8 (65 + (k - 1) % 26)] 1 hsz (by decide) rfl
        have HN : Hid _ := hnew
        clear hnew hown hnil
        go_wp2_with fail
        go_roundw
        case rel => exact ⟨(k - 1) / 26, [letter k], rfl, by omega, HR.out.1, HR.out.2, r3, own_cons (l := []) hpos HN.out, (fun h => by cases h), hbel.alloc hsz _⟩
        case measure => simp [intOf]; omega
      | cons d l =>
        obtain ⟨g, cap, rfl⟩ := Joins.ownsRow_form hown (by simp)
        have hlt := hown.lt g rfl
        go_wp2_with (at_builtin; refine wpList_append_own _ rfl _ _ 29 rfl w.heap.size 5 i0 (.int .u8 0) 1 1 Tryd.underlying29 hi hz0 hz1 hz2 rfl (by decide) _ _ _ rfl (World.ownsRow_lit wr _ 1 hsz (by decide) rfl) ⟨g, 0, none⟩ (d :: l).length cap ((d :: l).map byteV) rfl (by simp) ?c1 ?c2 ?c3 ?c4 ?c5 ?_)
        case c1 => exact (hown.alloc _).cells rfl
        case c2 => intro u hu; obtain ⟨x, _, rfl⟩ := List.mem_map.1 hu; rfl
        case c3 => simp at hlen; simp [maxLen]; omega
        case c4 => simp at hlen; simp; omega
        case c5 => simp; omega
        · intro v' w1 hown' hgrow hne
          have hb1 : Below w.heap.size w w1 := (hbel.alloc hsz _).grown hgrow (by simp; omega) (fun q hq => by simp [Value.ownBlock] at hq; omega)
          clear hown hgrow
          go_wp2_with fail
          go_roundw
          case rel => exact ⟨(k - 1) / 26, letter k :: d :: l, rfl, by omega, HR.out.1, HR.out.2, r3, own_cons (l := d :: l) hpos hown', (fun h => by cases h), hb1⟩
          case measure => simp [intOf]; omega
    · have HV : Hid (val l = c.toNat) := by
        have e : k.toNat = 0 := by omega
        rw [e] at hv
        show val l = c.toNat
        simpa using hv
      clear hv
      cases l with
      | nil =>
        obtain rfl := hnil rfl
        have kc := fun (C : Array Value) (n c : Nat) => Lib.run_convert_bytes_const (P := Tryd.prog) wr 29 5 C n c Tryd.underlying29 Tryd.underlying5
        have hcs : ∀ j (hj : j < [(64 : UInt8)].length), (wr.alloc (.cells #[.int .u8 64] 5 (1, 2))).cell? ((⟨wr.heap.size, 0, none⟩ : Addr).add j) = some (.int .u8 ([(64 : UInt8)][j].toNat : Int)) := fun j hj => by
          obtain rfl : j = 0 := by simpa using hj
          rw [add_plain]
          simp [World.cell?_alloc_mark]
        have hcA : (convert 29 9 (.slice (some ⟨wr.heap.size, 0, none⟩) 1 1)).run Tryd.prog (wr.alloc (.cells #[.int .u8 64] 5 (1, 2))).drew = .ok (.string ⟨[(64 : UInt8)].toArray⟩) (wr.alloc (.cells #[.int .u8 64] 5 (1, 2))).drew := conv_own _ wr.heap.size 1 [64] hcs
        have hbA : Below w.heap.size w (wr.alloc (.cells #[.int .u8 64] 5 (1, 2))).drew := (hbel.alloc hsz _).drew
        have HC : Hid _ := hcs
        have HB : Hid _ := hbA
        clear hcs hbA hown hnil
        go_wp2_with fail
        have hsz1 : (⟨[(64 : UInt8)].toArray⟩ : ByteArray).size = 1 := rfl
        have hsz2 : (⟨it.toArray⟩ : ByteArray).size = it.length := size_of_list it
        go_region_with (go_at_call 11; refine (hit.out _ HB.out).mono ?_; rintro e w2 ⟨rfl, hb2⟩; (have hcB : (convert 29 9 (.slice (some ⟨wr.heap.size, 0, none⟩) 1 1)).run Tryd.prog w2 = .ok (.string ⟨[(64 : UInt8)].toArray⟩) w2 := conv_own _ wr.heap.size 1 [64] (cells_at hb2 (by simp) HC.out)))
        all_goals go_wp2
        all_goals go_ret
        all_goals exact ⟨[], .nil, HV.out, by simp, congrArg (fun s => Ending.returned (.string s)) (bytes_append [64] it), HB.out.trans (hb2.mono HB.out.size)⟩
      | cons d l =>
        obtain ⟨g, cap, rfl⟩ := Joins.ownsRow_form hown (by simp)
        have hlt := hown.lt g rfl
        have hcs := cells_of_own hown
        have hcA : (convert 29 9 (.slice (some ⟨g, 0, none⟩) (l.length + 1) cap)).run Tryd.prog wr.drew = .ok (.string ⟨(d :: l).toArray⟩) wr.drew := conv_own _ g cap (d :: l) hcs
        have hlen' : l.length + 1 ≤ 14 := hlen
        have HC : Hid _ := hcs
        have HO : Hid (_ ∧ _) := ⟨hl, hlen⟩
        clear hcs hown hnil hl hlen
        go_wp2_with fail
        have hsz1 : (⟨(d :: l).toArray⟩ : ByteArray).size = l.length + 1 := size_of_list (d :: l)
        have hsz2 : (⟨it.toArray⟩ : ByteArray).size = it.length := size_of_list it
        go_region_with (go_at_call 11; refine (hit.out _ hbel.drew).mono ?_; rintro e w2 ⟨rfl, hb2⟩; (have hcB : (convert 29 9 (.slice (some ⟨g, 0, none⟩) (l.length + 1) cap)).run Tryd.prog w2 = .ok (.string ⟨(d :: l).toArray⟩) w2 := conv_own _ g cap (d :: l) (cells_at hb2 hlt.2 HC.out)))
        all_goals go_wp2
        all_goals go_ret
        all_goals exact ⟨d :: l, HO.out.1, HV.out, HO.out.2, congrArg (fun s => Ending.returned (.string s)) (bytes_append (d :: l) it), hbel.drew.trans (hb2.mono hbel.size)⟩
end Go.Proofs.Qxb6601360aDoor
