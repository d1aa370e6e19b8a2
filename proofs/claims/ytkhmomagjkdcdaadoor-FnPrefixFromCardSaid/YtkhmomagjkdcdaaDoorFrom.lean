/- The contract of impl.PrefixFrom: with enough bytes at hand the number takes them, and the others are left; else it lies in new ones. Conditions: an int64, a shift of at most 63, at most 10000 bytes. -/
import Derived.Test.YtkhmomagjkdcdaaDoorPre
set_option linter.unusedVariables false
set_option linter.unusedSimpArgs false
namespace Go.Proofs.YtkhmomagjkdcdaaDoor
open Go.RowKit

def LRow (w : World) (B m : Nat) (n s : Int) (k j : Nat) : Prop :=
  w.rowIs B 5 m (fun i => if i ≤ k + 1 ∧ (i = 0 ∨ j < i) then .int .u8 (pbyte n s k i) else .int .u8 0)

theorem LRow.start {w : World} {B m k : Nat} (n s : Int) (h : w.rowIs B 5 m (fun _ => .int .u8 0)) : LRow (w.setCell ⟨B, 0, none⟩ (.int .u8 (32 + s))) B m n s k (k + 1) := by
  refine (h.set 0 _).congr fun i hi => ?_
  by_cases e : i = 0
  · subst e; simp [pbyte]
  · rw [if_neg e, if_neg (by omega)]

theorem LRow.next {w : World} {B m k j : Nat} {n s : Int} (hj : j ≤ k) (h : LRow w B m n s k (j + 1)) : LRow (w.setCell ⟨B, j + 1, none⟩ (.int .u8 (pbyte n s k (j + 1)))) B m n s k j := by
  refine (World.rowIs.set h (j + 1) _).congr fun i hi => ?_
  by_cases e : i = j + 1
  · subst e; rw [if_pos rfl, if_pos (by omega)]
  · rw [if_neg e]
    by_cases e2 : i ≤ k + 1 ∧ (i = 0 ∨ j + 1 < i)
    · rw [if_pos e2, if_pos (by omega)]
    · rw [if_neg e2, if_neg (by omega)]

theorem LRow.cells {w : World} {B m : Nat} {n s : Int} (h : LRow w B m n s (pk s) 0) (i : Nat) (hm : pk s + 2 ≤ m) (hi : i < pk s + 2) : w.cell? ⟨B, i, none⟩ = some (.int .u8 ((pbytes n s).getD i 0)) := by
  rw [World.rowIs.cell h (by omega), if_pos (by omega), pbytes_get n s i hi]

set_option maxHeartbeats 400000 in
theorem prealloc_long (b m : Nat) (n s : Int) (k : Nat) (hn0 : -9223372036854775808 ≤ n) (hn1 : n ≤ 9223372036854775807) (hs0 : 0 ≤ s) (hs1 : s ≤ 63) (hk : (63 - s) / 7 = (k : Int)) (hk9 : k ≤ 9) (hm : k + 2 ≤ m) (hm2 : m ≤ 10000)
    (w : World) (hr : w.rowIs b 5 m (fun _ => .int .u8 0)) :
    Calls Tryd.prog 26 #[.int .i64 n, .int .u64 s, .slice (some ⟨b, 0, none⟩) m m] w fun e w' => ∃ q, e = .returned (.tuple #[.slice (some ⟨b, 0, none⟩) (k + 2) m, .slice (some q) (m - (k + 2)) (m - (k + 2)), .nilIface]) ∧ LRow w' b m n s k 0 ∧ Below b w w' := by
  have hst := psb_start n s k hn0 hn1
  have hd : decide (63 < s) = false := by simp; omega
  have hd2 : decide ((k : Int) + 1 + 1 ≤ m) = true := by simp; omega
  have c0 := hr.cell (i := 0) (by omega)
  have f0 := hr.frozen 0
  have HR := Lib.hid hr
  have HST := Lib.hid hst
  clear hr hst
  rcases Nat.eq_or_lt_of_le hm with hmk | hmk
  · subst hmk
    clear hd2 hm
    have hd2 : decide ((k : Int) + 1 + 1 ≤ k + 2) = true := by rw [decide_eq_true_eq]; omega
    go_enter Tryd.func26, Tryd.ntmps26
    go_wp2_with fail
    go_loopw [9, 11] (fun v9 v11 wr => ∃ j : Nat, j ≤ k + 1 ∧ v9 = .int .u64 j ∧ v11 = .int .i64 (psb n s k j) ∧ LRow wr b (k + 2) n s k j ∧ Below b w wr) (fun v9 _ _ => (intOf v9).toNat)
    case atStart => exact ⟨k + 1, by omega, by go_num, by rw [HST.out], LRow.start n s HR.out, (Below.refl b w).setCell (p := ⟨b, 0, none⟩) (Nat.le_refl _) _⟩
    case round =>
      obtain ⟨j, hj, rfl, rfl, hrow, hbel⟩ := hrel
      cases j with
      | zero =>
        have HR2 := Lib.hid hrow
        have HB2 := Lib.hid hbel
        clear hrow hbel
        go_wp2
        go_ret3
        exact ⟨⟨b, 0, none⟩, by simp, HR2.out, HB2.out⟩
      | succ j =>
        have cj := World.rowIs.cell hrow (i := j + 1) (by omega)
        have fj := World.rowIs.frozen hrow (j + 1)
        have hby := psb_byte n s k (j + 1) (by omega)
        have hnx := psb_next n s k j (by omega) hn0 hn1
        have hrg := pbyte_range n s k (j + 1) hs0 hs1
        have HR2 := Lib.hid hrow
        have HB2 := Lib.hid hbel
        clear hrow hbel
        go_wp2
        refine ⟨⟨j, by omega, rfl, by rw [hnx], LRow.next (by omega) HR2.out, HB2.out.setCell (Nat.le_refl _) _⟩, by simp [intOf]⟩
  · have hne : ¬ m = k + 1 + 1 := by omega
    go_enter Tryd.func26, Tryd.ntmps26
    go_wp2_with fail
    go_loopw [9, 11] (fun v9 v11 wr => ∃ j : Nat, j ≤ k + 1 ∧ v9 = .int .u64 j ∧ v11 = .int .i64 (psb n s k j) ∧ LRow wr b m n s k j ∧ Below b w wr) (fun v9 _ _ => (intOf v9).toNat)
    case atStart => exact ⟨k + 1, by omega, by go_num, by rw [HST.out], LRow.start n s HR.out, (Below.refl b w).setCell (p := ⟨b, 0, none⟩) (Nat.le_refl _) _⟩
    case round =>
      obtain ⟨j, hj, rfl, rfl, hrow, hbel⟩ := hrel
      cases j with
      | zero =>
        have HR2 := Lib.hid hrow
        have HB2 := Lib.hid hbel
        clear hrow hbel
        go_wp2
        go_ret3
        exact ⟨⟨b, k + 1 + 1, none⟩, rfl, HR2.out, HB2.out⟩
      | succ j =>
        have cj := World.rowIs.cell hrow (i := j + 1) (by omega)
        have fj := World.rowIs.frozen hrow (j + 1)
        have hby := psb_byte n s k (j + 1) (by omega)
        have hnx := psb_next n s k j (by omega) hn0 hn1
        have hrg := pbyte_range n s k (j + 1) hs0 hs1
        have HR2 := Lib.hid hrow
        have HB2 := Lib.hid hbel
        clear hrow hbel
        go_wp2
        refine ⟨⟨j, by omega, rfl, by rw [hnx], LRow.next (by omega) HR2.out, HB2.out.setCell (Nat.le_refl _) _⟩, by simp [intOf]⟩

theorem Below.rest {B : Nat} {w w1 w2 : World} (h1 : Below B w w1) (hz : B ≤ w1.heap.size) (h2 : Below w1.heap.size w1 w2) : Below B w w2 := h1.trans (h2.mono hz)

theorem prealloc_any (b m : Nat) (n s : Int) (hn0 : -9223372036854775808 ≤ n) (hn1 : n ≤ 9223372036854775807) (hs0 : 0 ≤ s) (hs1 : s ≤ 63) (hm : m ≤ 10000)
    (w : World) (hr : w.rowIs b 5 m (fun _ => .int .u8 0)) :
    Calls Tryd.prog 26 #[.int .i64 n, .int .u64 s, .slice (some ⟨b, 0, none⟩) m m] w fun e w' => ∃ b' cap q c, e = .returned (.tuple #[.slice (some ⟨b', 0, none⟩) (pbytes n s).length cap, .slice q (m - (pbytes n s).length) c, .nilIface]) ∧
      (pbytes n s).length ≤ cap ∧ cap ≤ 10000 ∧ (∀ i, i < (pbytes n s).length → w'.cell? ⟨b', i, none⟩ = some (.int .u8 ((pbytes n s).getD i 0))) ∧ Below b w w' := by
  obtain ⟨hk, hk9⟩ := pk_is s hs0 hs1
  rw [pbytes_length]
  rcases Nat.lt_or_ge m (pk s + 2) with hshort | hlong
  · refine (prealloc_short _ m m n s (pk s) hn0 hn1 hs0 hs1 hk hk9 hshort w).mono ?_
    rintro e w' ⟨rfl, hrow, hb⟩
    exact ⟨w.heap.size, pk s + 2, none, 0, by rw [show m - (pk s + 2) = 0 by omega], Nat.le_refl _, by omega, fun i hi => PRow.cells hrow i hi, hb.mono (by have := hr.lt; omega)⟩
  · refine (prealloc_long b m n s (pk s) hn0 hn1 hs0 hs1 hk hk9 hlong hm w hr).mono ?_
    rintro e w' ⟨q, rfl, hrow, hb⟩
    exact ⟨b, m, some q, _, rfl, hlong, hm, fun i hi => LRow.cells hrow i hlong hi, hb⟩

set_option maxHeartbeats 1000000 in
theorem impl_from (n s : Int) (m : Nat) (hn0 : -9223372036854775808 ≤ n) (hn1 : n ≤ 9223372036854775807) (hs0 : 0 ≤ s) (hs1 : s ≤ 63) (hm : m ≤ 10000) (w : World) :
    Calls Tryd.prog 12 #[.int .i64 n, .int .u64 s, .int .i64 (m : Int)] w fun e w' => ∃ v, e = .returned (.tuple #[v, .int .i64 ((m - (pbytes n s).length : Nat) : Int), .bool true]) ∧ ByteSl w' v (pbytes n s) ∧ Below w.heap.size w w' := by
  have hk9 := (pk_is s hs0 hs1).2
  have HP := Lib.hid (fun b w hr => prealloc_any b m n s hn0 hn1 hs0 hs1 hm w hr)
  have hlen := pbytes_length n s
  generalize pbytes n s = l at *
  have hl0 : l.length ≤ 11 := by omega
  have hl1 : 0 < l.length := by omega
  have HL := Lib.hid hlen
  clear hlen
  have hneg : decide ((m : Int) < 0) = false := by simp
  have hbig : decide (10000 < (m : Int)) = false := by simp; omega
  go_enter Tryd.func12, Tryd.ntmps12
  go_wp2_with (at_make; refine wpList_make_named _ rfl _ _ 23 rfl 5 (.int .u8 0) 1 Tryd.underlying23 info5 rfl .i64 .i64 m _ ?_ rfl rfl ?_ ?_ ?_)
  case refine_1 => rfl
  case refine_2 => omega
  case refine_3 => omega
  intro w1 hr hb hz
  have HR := Lib.hid hr
  have HB := Lib.hid hb
  have HZ := Lib.hid hz
  clear hr hb hz
  go_wp2_with fail
  refine (HP.out _ w1 HR.out).mono ?_
  rintro e w2 ⟨b', cap, q, c, rfl, hc1, hc2, hc, hb2⟩
  have HC := Lib.hid hc
  have HB2 := Lib.hid (HB.out.trans hb2)
  clear hc hb2
  go_wp2_with (at_builtin; refine wpList_append_own_src _ rfl _ _ 23 52 rfl w.heap.size 5 (.int .u8 0) 1 1 Tryd.underlying23 info5 rfl (by decide) _ 0 [] rfl ?own _ l.length (byteVals l) rfl ?src ?h63 ?hb ?base ?_)
  case own => exact World.ownsRow_made _ #[] 0 HB2.out.size (by simp [maxLen]) (by simp)
  case src => exact src_bytes Tryd.underlying52 b' cap l (fun i hi => cell_alloc (HC.out i hi) _)
  case h63 => simp [maxLen]; omega
  case hb => omega
  case base => have := HB2.out.size; simp; omega
  intro v' w3 hown hg
  have HO := Lib.hid hown
  have HG := Lib.hid hg
  clear hown hg
  go_wp2
  go_ret3
  exact ⟨v', rfl, byteSl_of_own rfl hl1 HO.out, (HB2.out.alloc HB2.out.size _).grown HG.out (by have := HB2.out.size; simp; omega) (fun k hk => by have := HB2.out.size; simp [Value.ownBlock] at hk; omega)⟩
end Go.Proofs.YtkhmomagjkdcdaaDoor
