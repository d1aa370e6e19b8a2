/- Proved: laws.FnPrefixOrder returns true for every two int64 numbers and every shift byte (the shift is taken modulo 64). -/
import Derived.Test.YtkhmomagjkdcdaaDoorOrder
import Derived.Test.YtkhmomagjkdcdaaDoorAwake
set_option linter.unusedVariables false
set_option linter.unusedSimpArgs false
namespace Go.Proofs.YtkhmomagjkdcdaaDoor
open Go.RowKit

set_option maxHeartbeats 1000000 in
theorem walk_order (m n x : Int) (hm0 : -9223372036854775808 ≤ m) (hm1 : m ≤ 9223372036854775807) (hn0 : -9223372036854775808 ≤ n) (hn1 : n ≤ 9223372036854775807) (hx0 : 0 ≤ x) (hx1 : x ≤ 255) (w : World) (ht : Tabs w) :
    Calls Tryd.prog 3 #[.int .i64 m, .int .i64 n, .int .u8 x] w fun e w' => e = .returned (.bool true) ∧ Below w.heap.size w w' := by
  have HT := Lib.hid ht
  clear ht
  obtain ⟨s, hs⟩ : ∃ s, s = x % 64 := ⟨_, rfl⟩
  have hs0 : 0 ≤ s := by omega
  have hs1 : s ≤ 63 := by omega
  have hs' : x % 64 = s := hs.symm
  obtain ⟨h1, h2⟩ := pbytes_order m n s hm0 hm1 hn0 hn1 hs0 hs1
  have HO1 := Lib.hid h1
  have HO2 := Lib.hid h2
  clear h1 h2 hs
  go_enter Tryd.func3, Tryd.ntmps3
  go_wp2_with fail
  refine (impl_new m s hm0 hm1 hs0 hs1 w).mono ?_
  rintro e w1 ⟨v, rfl, hv, hb1⟩
  have HV := Lib.hid hv
  have HB1 := Lib.hid hb1
  obtain ⟨b, cap, rfl, _⟩ := hv
  clear hb1
  go_wp2_with fail
  refine (impl_new n s hn0 hn1 hs0 hs1 w1).mono ?_
  rintro e w2 ⟨v, rfl, hv, hb2⟩
  have HV1 := Lib.hid (HV.out.below hb2)
  have HV2 := Lib.hid hv
  have HB2 := Lib.hid (HB1.out.trans (hb2.mono HB1.out.size))
  obtain ⟨b', cap', rfl, _⟩ := hv
  clear hb2
  go_wp2_with fail
  refine (awake w2 (HT.out.below ((HB2.out)))).mono ?_
  rintro e w3 ⟨rfl, hb3⟩
  have HV3 := Lib.hid (HV1.out.below hb3)
  have HV4 := Lib.hid (HV2.out.below hb3)
  have HB3 := Lib.hid (HB2.out.trans (hb3.mono HB2.out.size))
  clear hb3
  obtain ⟨b3, cap3, e3, _, _, hc3⟩ := HV3.out
  obtain ⟨b4, cap4, e4, _, _, hc4⟩ := HV4.out
  cases e3
  cases e4
  have k1 := run_convert_bytes_arg (P := Tryd.prog) w3 23 5 Tryd.underlying23 Tryd.underlying5 b 0 (pbytes m s).length cap (pbytes m s) rfl (fun i hi => by simpa using hc3 i hi) 9 Tryd.underlying9
  have k2 := run_convert_bytes_arg (P := Tryd.prog) w3 23 5 Tryd.underlying23 Tryd.underlying5 b' 0 (pbytes n s).length cap' (pbytes n s) rfl (fun i hi => by simpa using hc4 i hi) 9 Tryd.underlying9
  clear hc3 hc4
  have j1 : (strOfNums (pbytes m s)).toList = u8s (pbytes m s) := by rw [ByteArray.toList_eq]; rfl
  have j2 : (strOfNums (pbytes n s)).toList = u8s (pbytes n s) := by rw [ByteArray.toList_eq]; rfl
  have q1 : Op.bytesLess (strOfNums (pbytes m s)).toList (strOfNums (pbytes n s)).toList = decide (m / 2 ^ s.toNat < n / 2 ^ s.toNat) := by rw [j1, j2]; exact HO1.out
  have q2 : (((strOfNums (pbytes m s)).toList == (strOfNums (pbytes n s)).toList) == (m / 2 ^ s.toNat == n / 2 ^ s.toNat)) = true := by
    rw [j1, j2, beq_iff_eq, Bool.eq_iff_iff, beq_iff_eq, beq_iff_eq]; exact HO2.out
  clear j1 j2
  generalize strOfNums (pbytes m s) = A at *
  generalize strOfNums (pbytes n s) = B at *
  go_wp2
  go_ret
  exact ⟨by simp [q2], HB3.out⟩
end Go.Proofs.YtkhmomagjkdcdaaDoor
