/- The walk of laws.FnPrefixFrom: true for every number, every shift byte and every number of bytes. -/
import Derived.Test.YtkhmomagjkdcdaaDoorFrom
import Derived.Test.YtkhmomagjkdcdaaDoorCoded
import Derived.Test.YtkhmomagjkdcdaaDoorAwake
import Derived.Laws.BytesArg
set_option linter.unusedVariables false
set_option linter.unusedSimpArgs false
namespace Go.Proofs.YtkhmomagjkdcdaaDoor
open Go.RowKit

set_option maxHeartbeats 1000000 in
theorem walk_from (n x y : Int) (hn0 : -9223372036854775808 ≤ n) (hn1 : n ≤ 9223372036854775807) (hx0 : 0 ≤ x) (hx1 : x ≤ 255) (hy0 : 0 ≤ y) (hy1 : y ≤ 255) (w : World) (ht : Tabs w) :
    Calls Tryd.prog 4 #[.int .i64 n, .int .u8 x, .int .u8 y] w fun e w' => e = .returned (.bool true) ∧ Below w.heap.size w w' := by
  have HT := Lib.hid ht
  clear ht
  by_cases hg : 63 < x ∨ 40 < y
  · by_cases h1 : 63 < x
    · have d1 : decide (63 < x) = true := by simp [h1]
      clear hg
      go_enter Tryd.func4, Tryd.ntmps4
      go_wp2_with fail
      refine (awake w HT.out).mono ?_
      rintro e w1 ⟨rfl, hb⟩
      have HB := Lib.hid hb
      clear hb
      go_wp2
      go_ret
      exact ⟨rfl, HB.out⟩
    · have h2 : 40 < y := by omega
      have d1 : decide (63 < x) = false := by simp; omega
      have d2 : decide (40 < y) = true := by simp [h2]
      clear hg
      go_enter Tryd.func4, Tryd.ntmps4
      go_wp2_with fail
      refine (awake w HT.out).mono ?_
      rintro e w1 ⟨rfl, hb⟩
      have HB := Lib.hid hb
      clear hb
      go_wp2
      go_ret
      exact ⟨rfl, HB.out⟩
  · have hs1 : x ≤ 63 := by omega
    have hm1 : y ≤ 40 := by omega
    obtain ⟨m, rfl⟩ := Int.eq_ofNat_of_zero_le hy0
    have d1 : decide (63 < x) = false := by simp; omega
    have d2 : decide (40 < (m : Int)) = false := by simp; omega
    clear hg
    have HF := Lib.hid (fun w => impl_from n x m hn0 hn1 hx0 hs1 (by omega) w)
    have HC := Lib.hid (fun w => coded n x hn0 hn1 hx0 hs1 w)
    generalize pbytes n x = l at *
    go_enter Tryd.func4, Tryd.ntmps4
    go_wp2_with fail
    refine (HC.out w).mono ?_
    rintro e w1 ⟨v, rfl, hv, hb⟩
    have HV := Lib.hid hv
    have HB := Lib.hid hb
    obtain ⟨b, cap, rfl, _⟩ := hv
    clear hb
    go_wp2_with fail
    refine (HF.out w1).mono ?_
    rintro e w2 ⟨v, rfl, hv, hb⟩
    have HV1 := Lib.hid (HV.out.below hb)
    have HV2 := Lib.hid hv
    have HB2 := Lib.hid (HB.out.trans (hb.mono HB.out.size))
    obtain ⟨b', cap', rfl, _⟩ := hv
    clear hb
    go_wp2_with fail
    refine (awake w2 (HT.out.below HB2.out)).mono ?_
    rintro e w3 ⟨rfl, hb3⟩
    have HV3 := Lib.hid (HV1.out.below hb3)
    have HV4 := Lib.hid (HV2.out.below hb3)
    have HB3 := Lib.hid (HB2.out.trans (hb3.mono HB2.out.size))
    clear hb3
    obtain ⟨b3, cap3, e3, _, _, hc3⟩ := HV3.out
    obtain ⟨b4, cap4, e4, _, _, hc4⟩ := HV4.out
    cases e3
    cases e4
    have k1 := run_convert_bytes_arg (P := Tryd.prog) w3 23 5 Tryd.underlying23 Tryd.underlying5 b 0 l.length cap l rfl (fun i hi => by simpa using hc3 i hi) 9 Tryd.underlying9
    have k2 := run_convert_bytes_arg (P := Tryd.prog) w3 23 5 Tryd.underlying23 Tryd.underlying5 b' 0 l.length cap' l rfl (fun i hi => by simpa using hc4 i hi) 9 Tryd.underlying9
    clear hc3 hc4
    generalize strOfNums l = A at *
    by_cases hlt : m < l.length
    · have d3 : decide (m < l.length) = true := by simp [hlt]
      go_wp2
      go_ret
      exact ⟨rfl, HB3.out⟩
    · have d3 : decide (m < l.length) = false := by simp; omega
      have hsub : ((m - l.length : Nat) : Int) = (m : Int) - (l.length : Int) := by omega
      go_wp2
      go_ret
      exact ⟨rfl, HB3.out⟩
end Go.Proofs.YtkhmomagjkdcdaaDoor
