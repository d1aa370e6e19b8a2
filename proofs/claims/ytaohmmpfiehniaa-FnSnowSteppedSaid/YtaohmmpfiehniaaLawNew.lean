/- The walk of laws.FnSnowNew: true whatever the text. -/
import Derived.Test.YtaohmmpfiehniaaTrip
import Derived.Test.YtaohmmpfiehniaaAwake
set_option linter.unusedVariables false
set_option linter.unusedSimpArgs false
namespace Go.Proofs.Ytaohmmpfiehniaa
open Go.RowKit

theorem runes_fn (s : ByteArray) (hs : s.size ≤ 2147483647) (w : World) : Calls Try.prog 10 #[.string s] w fun x w' => (∃ b cap, x = .returned (.slice (some ⟨b, 0, none⟩) (runesOf s).length cap)  ∧ RunesAt w' b (runesOf s) ∧ (runesOf s).length ≤ cap ∧ cap ≤ maxLen) ∧ Below w.heap.size w w' := by
  obtain ⟨cap, W, hcv, hz, hb, hr, hc1, hc2⟩ := conv_runes s (runesOf s) (runes_of s (by omega)) w
  have HB := Lib.hid hb
  have HR := Lib.hid hr
  clear hb hr
  generalize runesOf s = rs at *
  go_enter Try.func10, Try.ntmps10
  go_wp2
  go_ret
  exact ⟨⟨_, _, rfl, HR.out, hc1, hc2⟩, HB.out⟩

theorem eq_snow (s : ByteArray) (a b c : Int) (w : World) : (binOp .eql 27 (snowV s a b c) (snowV s a b c)).run Try.prog w = .ok (.bool true) w := by
  simp [snowV, go_sem]

set_option maxHeartbeats 1000000 in
theorem walk_new (s : ByteArray) (hm : s.size ≤ 9223372036854775807) (w : World) : Calls Try.prog 3 #[.string s] w fun x w' => x = .returned (.bool true) ∧ Below w.heap.size w w' := by
  by_cases hs : s.size ≤ 2147483647
  · have ht : decide ((2147483647 : Int) < (s.size : Int)) = false := by rw [decide_eq_false_iff_not]; omega
    by_cases hw : IsWhole s 60
    · have hw' : decide (IsWhole s 60) = true := by simpa using hw
      have htrip := trip s hw.1
      clear hw
      go_enter Try.func3, Try.ntmps3
      go_wp2_with fail
      refine (whole s 60 hs w).mono ?_
      rintro x w1 ⟨rfl, hb1⟩
      rw [hw']
      have HB1 := Lib.hid hb1
      clear hb1
      go_wp2_with fail
      refine (runes_fn s hs w1).mono ?_
      rintro x w2 ⟨⟨b, cap, rfl, _, hc1, hc2⟩, hb2⟩
      have HB2 := Lib.hid (HB1.out.trans (hb2.mono HB1.out.size))
      clear hb2
      go_wp2_with fail
      refine (awake w2).mono ?_
      rintro x w3 ⟨rfl, hb3⟩
      have HB3 := Lib.hid (HB2.out.trans (hb3.mono HB2.out.size))
      clear hb3
      go_wp2_with fail
      refine (snow_new s (runesOf s) (runes_of s (by omega)) w3).mono ?_
      rintro x w4 ⟨rfl, hb4⟩
      have HB4 := Lib.hid (HB3.out.trans (hb4.mono HB3.out.size))
      rw [htrip]
      have he := eq_snow s (runesOf s).length (runesOf s).length (runesOf s).length
      clear hb4 htrip hw'
      generalize runesOf s = rs at *
      unfold snowV at he ⊢
      go_wp2
      go_ret
      exact ⟨rfl, HB4.out⟩
    · have hw' : decide (IsWhole s 60) = false := by simpa using hw
      clear hw
      go_enter Try.func3, Try.ntmps3
      go_wp2_with fail
      refine (whole s 60 hs w).mono ?_
      rintro x w1 ⟨rfl, hb1⟩
      rw [hw']
      have HB1 := Lib.hid hb1
      clear hb1
      go_wp2_with fail
      refine (awake w1).mono ?_
      rintro x w2 ⟨rfl, hb2⟩
      have HB2 := Lib.hid (HB1.out.trans (hb2.mono HB1.out.size))
      clear hb2
      go_wp2
      go_ret
      exact ⟨rfl, HB2.out⟩
  · have ht : decide ((2147483647 : Int) < (s.size : Int)) = true := by rw [decide_eq_true_eq]; omega
    go_enter Try.func3, Try.ntmps3
    go_wp2
    go_ret
    exact ⟨rfl, Below.refl _ _⟩
end Go.Proofs.Ytaohmmpfiehniaa
