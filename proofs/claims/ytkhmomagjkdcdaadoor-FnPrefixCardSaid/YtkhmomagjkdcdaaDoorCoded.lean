/- The contract of spec.PrefixCoded: the bytes of the coded number. Conditions: an int64, a shift of at most 63. -/
import Derived.Test.YtkhmomagjkdcdaaDoorPre
set_option linter.unusedVariables false
set_option linter.unusedSimpArgs false
namespace Go.Proofs.YtkhmomagjkdcdaaDoor
open Go.RowKit

theorem and127_u64 (x : Int) (h0 : 0 ≤ x) (h1 : x < 18446744073709551616) : bits .and .u64 x 127 = x % 128 := by
  obtain ⟨X, rfl⟩ := Int.eq_ofNat_of_zero_le h0
  rw [show (127 : Int) = ((127 : Nat) : Int) from rfl, u64_and_nat _ _ (by omega) (by omega), nat_mask7]
  rfl

theorem coded_byte (n s : Int) (i : Nat) (hn0 : -9223372036854775808 ≤ n) (hn1 : n ≤ 9223372036854775807) (hi : i ≤ pk s) :
    bits .and .u64 (pq n s / 2 ^ (7 * i)) 127 = pbyte n s (pk s) (pk s + 1 - i) := by
  have e : (2 : Int) ^ (7 * i) = 128 ^ i := by rw [Int.pow_mul]; rfl
  have ⟨a, b⟩ := pqd_range n s i hn0 hn1
  rw [e, and127_u64 _ a b]
  unfold pbyte
  rw [if_neg (by omega), show pk s + 1 - (pk s + 1 - i) = i by omega]

theorem pbytes_take (n s : Int) (m : Nat) (hm : m < pk s + 2) : byteVals ((pbytes n s).take (m + 1)) = byteVals ((pbytes n s).take m) ++ [.int .u8 (pbyte n s (pk s) m)] := by
  rw [List.take_succ_eq_append_getElem (by rw [pbytes_length]; exact hm)]
  simp [byteVals, pbytes]

theorem size_any (s : Int) (hs0 : 0 ≤ s) (hs1 : s ≤ 63) (w : World) : Calls Tryd.prog 25 #[.int .u64 s] w fun e w' => e = .returned (.int .i64 ((pk s : Int) + 1)) ∧ w = w' := by
  have hk := (pk_is s hs0 hs1).1
  go_enter Tryd.func25, Tryd.ntmps25
  go_wp2
  go_ret
  exact ⟨by simp [hk], rfl⟩

set_option maxHeartbeats 1000000 in
theorem coded (n s : Int) (hn0 : -9223372036854775808 ≤ n) (hn1 : n ≤ 9223372036854775807) (hs0 : 0 ≤ s) (hs1 : s ≤ 63) (w : World) :
    Calls Tryd.prog 11 #[.int .i64 n, .int .u64 s] w fun e w' => ∃ v, e = .returned v ∧ ByteSl w' v (pbytes n s) ∧ Below w.heap.size w w' := by
  have hx := bits_xor_top n hn0 hn1
  have hq : (n + 9223372036854775808) / 2 ^ s.toNat = pq n s := rfl
  have hqr := pq_range n s hn0 hn1
  have hk9 := (pk_is s hs0 hs1).2
  have HX := Lib.hid hx
  have HQ := Lib.hid hq
  have HQR := Lib.hid hqr
  clear hx hq hqr
  go_enter Tryd.func11, Tryd.ntmps11
  go_wp2_with fail
  refine (size_any s hs0 hs1 w).mono ?_
  rintro e w' ⟨rfl, rfl⟩
  rw [HX.out, HQ.out]
  go_wp2_with fail
  go_loopw [7, 8] (fun v7 v8 wr => ∃ j : Nat, j ≤ pk s + 1 ∧ v8 = .int .i64 ((j : Int) - 1) ∧ wr.ownsRow w.heap.size 5 1 v7 (pk s + 2 - j) (byteVals ((pbytes n s).take (pk s + 2 - j))) ∧ Below w.heap.size w wr) (fun _ v8 _ => (intOf v8 + 1).toNat)
  case atStart =>
    refine ⟨pk s + 1, by omega, by go_num, ?_, (Below.refl _ _).alloc (Nat.le_refl _) _⟩
    have h := World.ownsRow_lit (base := w.heap.size) (e := 5) (size := 1) w #[.int .u8 (32 + s)] 1 (Nat.le_refl _) (by simp [maxLen]) rfl
    have e : pk s + 2 - (pk s + 1) = 1 := by omega
    rw [e]
    have e2 : byteVals ((pbytes n s).take 1) = [.int .u8 (32 + s)] := by
      rw [pbytes_take n s 0 (by omega)]; simp [byteVals, pbyte]
    rw [e2]
    exact h
  case round =>
    obtain ⟨j, hj, rfl, hown, hbel⟩ := hrel
    have HO := Lib.hid hown
    have HB := Lib.hid hbel
    clear hown hbel
    cases j with
    | zero =>
      rw [show (((0 : Nat) : Int) - 1) = -1 from rfl]
      go_wp2
      go_ret
      refine ⟨u7, rfl, byteSl_of_own (base := w.heap.size) (e := 5) (by rw [pbytes_length]) (by omega) ?_, HB.out⟩
      have h := HO.out
      rw [Nat.sub_zero, List.take_of_length_le (by rw [pbytes_length]; omega)] at h
      exact h
    | succ j =>
      rw [show (((j + 1 : Nat) : Int) - 1) = (j : Int) by omega]
      have hby := coded_byte n s j hn0 hn1 (by omega)
      have hrg := pbyte_range n s (pk s) (pk s + 1 - j) hs0 hs1
      have hq0 := HQR.out.1
      have hq1 := HQR.out.2
      have hsz : w.heap.size ≤ wr.heap.size := HB.out.size
      go_wp2_with (at_builtin; refine wpList_append_own_src _ rfl _ _ 23 23 rfl w.heap.size 5 (.int .u8 0) 1 1 Tryd.underlying23 info5 rfl (by decide) _ _ _ rfl (HO.out.alloc _) _ 1 [.int .u8 (pbyte n s (pk s) (pk s + 1 - j))] rfl ?src ?h63 ?hb ?base ?_)
      case src => exact src_one Tryd.underlying23 wr _ 5 rfl
      case h63 => simp [maxLen]; omega
      case hb => omega
      case base => simp; omega
      intro v' w2 hown2 hg2
      have HO2 := Lib.hid hown2
      have HB2 := Lib.hid ((HB.out.alloc hsz (.cells #[.int .u8 (pbyte n s (pk s) (pk s + 1 - j))] 5)).grown hg2 (by simp; omega) (fun k hk => ((HO.out.lt) k hk).1))
      clear hown2 hg2
      go_wp2
      refine ⟨⟨j, by omega, rfl, ?_, HB2.out⟩, by simp [intOf]⟩
      have h := HO2.out
      rw [show pk s + 2 - j = pk s + 1 - j + 1 by omega, pbytes_take n s _ (by omega)]
      exact h
end Go.Proofs.YtkhmomagjkdcdaaDoor
