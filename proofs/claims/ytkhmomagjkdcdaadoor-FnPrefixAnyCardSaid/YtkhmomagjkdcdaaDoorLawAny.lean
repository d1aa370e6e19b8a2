/- The walk of laws.FnPrefixAny: true for all bytes. -/
import Derived.Test.YtkhmomagjkdcdaaDoorValid
import Derived.Test.YtkhmomagjkdcdaaDoorAwake
set_option linter.unusedVariables false
set_option linter.unusedSimpArgs false
namespace Go.Proofs.YtkhmomagjkdcdaaDoor
open Go.RowKit

set_option maxHeartbeats 1000000 in
theorem walk_any (A : Option Addr) (cap : Nat) (l : List Int) (hm : l.length ≤ 9223372036854775807) (w : World) (h : BytesIn w A l) (ht : Tabs w) :
    Calls Tryd.prog 7 #[.slice A l.length cap] w fun e w' => e = .returned (.bool true) ∧ Below w.heap.size w w' := by
  have HT := Lib.hid ht
  have HI := Lib.hid h
  clear ht h
  by_cases h1 : 2147483647 < l.length
  · have d1 : decide (2147483647 < l.length) = true := by simp [h1]
    go_enter Tryd.func7, Tryd.ntmps7
    go_wp2
    go_ret
    exact ⟨rfl, Below.refl _ _⟩
  · have d1 : decide (2147483647 < l.length) = false := by simp; omega
    by_cases h2 : 100 < l.length
    · have d2 : decide (100 < l.length) = true := by simp [h2]
      go_enter Tryd.func7, Tryd.ntmps7
      go_wp2_with fail
      refine (awake w HT.out).mono ?_
      rintro e w1 ⟨rfl, hb⟩
      have HB := Lib.hid hb
      clear hb
      go_wp2
      go_ret
      exact ⟨rfl, HB.out⟩
    · have d2 : decide (100 < l.length) = false := by simp; omega
      have HR := Lib.hid (right_any A cap l w (by omega) HI.out)
      have HV := Lib.hid (fun w h => impl_valid A cap l w (by omega) h)
      generalize vOk (hd l) l.length = ok at *
      generalize vShift (hd l) l.length = sh at *
      go_enter Tryd.func7, Tryd.ntmps7
      go_wp2_with fail
      refine HR.out.mono ?_
      rintro e w1 ⟨rfl, hb⟩
      have HB := Lib.hid hb
      have HI1 := Lib.hid (HI.out.below hb)
      clear hb
      go_wp2_with fail
      refine (HV.out w1 HI1.out).mono ?_
      rintro e w2 ⟨rfl, hb⟩
      have HB2 := Lib.hid (HB.out.trans (hb.mono HB.out.size))
      clear hb
      go_wp2_with fail
      refine (awake w2 (HT.out.below HB2.out)).mono ?_
      rintro e w3 ⟨rfl, hb⟩
      have HB3 := Lib.hid (HB2.out.trans (hb.mono HB2.out.size))
      clear hb
      go_wp2
      go_ret
      exact ⟨rfl, HB3.out⟩
end Go.Proofs.YtkhmomagjkdcdaaDoor
