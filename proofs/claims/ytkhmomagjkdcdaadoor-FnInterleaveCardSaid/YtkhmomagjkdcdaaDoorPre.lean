/- The contract of NewPrefixCodedInt64Prealloc without bytes at hand, for shifts up to 63. -/
import Derived.Test.YtkhmomagjkdcdaaDoorSafe
import Derived.Test.YtkhmomagjkdcdaaDoorPlain
import Derived.Test.YtkhmomagjkdcdaaDoorLib
import Derived.Deep.OwnRows
import Derived.Deep.LoopGhost
set_option linter.unusedVariables false
set_option linter.unusedSimpArgs false
namespace Go.Proofs.YtkhmomagjkdcdaaDoor
open Go.RowKit
theorem info5 : (Tryd.prog.info? 5).map (fun i => (i.zero, i.size, i.bytes)) = some (some (.int .u8 0), 1, 1) := by kernel_rfl

/-- The row as the loop of the prefix coded number leaves it behind some rounds: the bytes from j + 1 on are laid. -/
def PRow (w : World) (B : Nat) (n s : Int) (k j : Nat) : Prop :=
  w.rowIs B 5 (k + 2) (fun i => if i = 0 ∨ j < i then .int .u8 (pbyte n s k i) else .int .u8 0)

theorem PRow.start {w : World} {B k : Nat} (n s : Int) (h : w.rowIs B 5 (k + 2) (fun _ => .int .u8 0)) : PRow (w.setCell ⟨B, 0, none⟩ (.int .u8 (32 + s))) B n s k (k + 1) := by
  refine (h.set 0 _).congr fun i hi => ?_
  by_cases e : i = 0
  · subst e; simp [pbyte]
  · rw [if_neg e, if_neg (by omega)]

theorem PRow.next {w : World} {B k j : Nat} {n s : Int} (h : PRow w B n s k (j + 1)) : PRow (w.setCell ⟨B, j + 1, none⟩ (.int .u8 (pbyte n s k (j + 1)))) B n s k j := by
  refine (World.rowIs.set h (j + 1) _).congr fun i hi => ?_
  by_cases e : i = j + 1
  · subst e; simp
  · rw [if_neg e]
    by_cases e2 : i = 0 ∨ j + 1 < i
    · rw [if_pos e2, if_pos (by omega)]
    · rw [if_neg e2, if_neg (by omega)]

set_option maxHeartbeats 400000 in
theorem prealloc_short (a : Option Addr) (m c : Nat) (n s : Int) (k : Nat) (hn0 : -9223372036854775808 ≤ n) (hn1 : n ≤ 9223372036854775807) (hs0 : 0 ≤ s) (hs1 : s ≤ 63) (hk : (63 - s) / 7 = (k : Int)) (hk9 : k ≤ 9) (hm : m < k + 2) (w : World) :
    Calls Tryd.prog 26 #[.int .i64 n, .int .u64 s, .slice a m c] w fun e w' => e = .returned (.tuple #[.slice (some ⟨w.heap.size, 0, none⟩) (k + 2) (k + 2), .slice none 0 0, .nilIface]) ∧ PRow w' w.heap.size n s k 0 ∧ Below w.heap.size w w' := by
  have hst := psb_start n s k hn0 hn1
  have hd : decide (63 < s) = false := by simp; omega
  have hd2 : decide ((k : Int) + 1 + 1 ≤ m) = false := by simp; omega
  go_enter Tryd.func26, Tryd.ntmps26
  go_wp2_with (at_make; refine wpList_make_named _ rfl _ _ 52 rfl 5 (.int .u8 0) 1 Tryd.underlying52 info5 rfl .i64 .i64 (k + 2) _ ?_ rfl rfl ?_ ?_ ?_)
  case refine_1 => omega
  case refine_2 => omega
  case refine_3 => omega
  intro w1 hr hb hz
  have c0 := hr.cell (i := 0) (by omega)
  have f0 := hr.frozen 0
  have HR := Lib.hid hr
  have HB := Lib.hid hb
  clear hr hb
  have HST := Lib.hid hst
  clear hst
  go_wp2_with fail
  go_loopw [9, 11] (fun v9 v11 wr => ∃ j : Nat, j ≤ k + 1 ∧ v9 = .int .u64 j ∧ v11 = .int .i64 (psb n s k j) ∧ PRow wr w.heap.size n s k j ∧ Below w.heap.size w wr) (fun v9 _ _ => (intOf v9).toNat)
  case atStart => exact ⟨k + 1, by omega, by go_num, by rw [HST.out], PRow.start n s HR.out, HB.out.setCell (Nat.le_refl _) _⟩
  case round =>
    obtain ⟨j, hj, rfl, rfl, hrow, hbel⟩ := hrel
    cases j with
    | zero =>
      have HR2 := Lib.hid hrow
      have HB2 := Lib.hid hbel
      clear hrow hbel
      go_wp2
      go_ret3
      exact ⟨rfl, HR2.out, HB2.out⟩
    | succ j =>
      have cj := World.rowIs.cell hrow (i := j + 1) (by omega)
      have fj := World.rowIs.frozen hrow (j + 1)
      have hby := psb_byte n s k (j + 1) (by omega)
      have hnx := psb_next n s k j (by omega) hn0 hn1
      have hrg := pbyte_range n s k (j + 1) hs0 hs1
      have HR2 := Lib.hid hrow
      have HB2 := Lib.hid hbel
      clear hrow hbel
      go_wp2
      refine ⟨⟨j, by omega, rfl, by rw [hnx], PRow.next HR2.out, HB2.out.setCell (Nat.le_refl _) _⟩, by simp [intOf]⟩

def pk (s : Int) : Nat := ((63 - s) / 7).toNat
def pbytes (n s : Int) : List Int := (List.range (pk s + 2)).map (pbyte n s (pk s))
theorem pbytes_length (n s : Int) : (pbytes n s).length = pk s + 2 := by simp [pbytes]
theorem pbytes_get (n s : Int) (i : Nat) (h : i < pk s + 2) : (pbytes n s).getD i 0 = pbyte n s (pk s) i := by simp [pbytes, h]

theorem PRow.cells {w : World} {B : Nat} {n s : Int} (h : PRow w B n s (pk s) 0) (i : Nat) (hi : i < pk s + 2) : w.cell? ⟨B, i, none⟩ = some (.int .u8 ((pbytes n s).getD i 0)) := by
  rw [World.rowIs.cell h hi, if_pos (by omega), pbytes_get n s i hi]

theorem pk_is (s : Int) (hs0 : 0 ≤ s) (hs1 : s ≤ 63) : (63 - s) / 7 = (pk s : Int) ∧ pk s ≤ 9 := by unfold pk; omega

theorem new_any (n s : Int) (hn0 : -9223372036854775808 ≤ n) (hn1 : n ≤ 9223372036854775807) (hs0 : 0 ≤ s) (hs1 : s ≤ 63) (w : World) :
    Calls Tryd.prog 24 #[.int .i64 n, .int .u64 s] w fun e w' => ∃ v, e = .returned (.tuple #[v, .nilIface]) ∧ ByteSl w' v (pbytes n s) ∧ Below w.heap.size w w' := by
  obtain ⟨hk, hk9⟩ := pk_is s hs0 hs1
  have HK := Lib.hid hk
  clear hk
  go_enter Tryd.func24, Tryd.ntmps24
  go_wp2_with fail
  refine (prealloc_short none 0 0 n s (pk s) hn0 hn1 hs0 hs1 HK.out hk9 (by omega) w).mono ?_
  rintro e w' ⟨rfl, hr, hb⟩
  have HR := Lib.hid hr
  have HB := Lib.hid hb
  clear hr hb
  go_wp2
  go_ret2
  exact ⟨.slice (some ⟨w.heap.size, 0, none⟩) (pk s + 2) (pk s + 2), rfl, ⟨w.heap.size, pk s + 2, by rw [pbytes_length], by rw [pbytes_length]; omega, by simp [maxLen]; omega, fun i hi => PRow.cells HR.out i (by rw [pbytes_length] at hi; exact hi)⟩, HB.out⟩

theorem impl_new (n s : Int) (hn0 : -9223372036854775808 ≤ n) (hn1 : n ≤ 9223372036854775807) (hs0 : 0 ≤ s) (hs1 : s ≤ 63) (w : World) :
    Calls Tryd.prog 9 #[.int .i64 n, .int .u64 s] w fun e w' => ∃ v, e = .returned (.tuple #[v, .bool true]) ∧ ByteSl w' v (pbytes n s) ∧ Below w.heap.size w w' := by
  obtain ⟨hk, hk9⟩ := pk_is s hs0 hs1
  have HK := Lib.hid hk
  clear hk
  have HN := Lib.hid (new_any n s hn0 hn1 hs0 hs1 w)
  have hlen := pbytes_length n s
  generalize pbytes n s = l at *
  have hl0 : l.length ≤ 11 := by omega
  have hl1 : 0 < l.length := by omega
  have HL := Lib.hid hlen
  clear hlen
  go_enter Tryd.func9, Tryd.ntmps9
  go_wp2_with fail
  refine HN.out.mono ?_
  rintro e w' ⟨v, rfl, ⟨b, cap, rfl, hc1, hc2, hc⟩, hb⟩
  have HC := Lib.hid hc
  have HB := Lib.hid hb
  clear hc hb
  go_wp2_with (at_builtin; refine wpList_append_own_src _ rfl _ _ 23 52 rfl w.heap.size 5 (.int .u8 0) 1 1 Tryd.underlying23 info5 rfl (by decide) _ 0 [] rfl ?own _ l.length (byteVals l) rfl ?src ?h63 ?hb ?base ?_)
  case own => exact World.ownsRow_made _ #[] 0 HB.out.size (by simp [maxLen]) (by simp)
  case src => exact src_bytes Tryd.underlying52 b cap l (fun i hi => ((Below.refl _ w').alloc (Nat.le_refl _) _ |>.cell (World.block_lt_of_cell? w' _ (HC.out i hi))).trans (HC.out i hi))
  case h63 => simp [maxLen]; omega
  case hb => omega
  case base => have := HB.out.size; simp; omega
  intro v' w2 hown hg
  have HO := Lib.hid hown
  have HG := Lib.hid hg
  clear hown hg
  go_wp2
  go_ret2
  exact ⟨v', rfl, byteSl_of_own rfl hl1 HO.out, (HB.out.alloc HB.out.size _).grown HG.out (by have := HB.out.size; simp; omega) (fun k hk => by have := HB.out.size; simp [Value.ownBlock] at hk; omega)⟩
end Go.Proofs.YtkhmomagjkdcdaaDoor
