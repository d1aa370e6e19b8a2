/- The contracts of spec.Ends and spec.Begins. -/
import Derived.Test.YtaohmmpfiehniaaEnds
import Derived.WalkLawsBesides
set_option linter.unusedVariables false
set_option linter.unusedSimpArgs false
namespace Go.Proofs.Ytaohmmpfiehniaa
open Go.RowKit

theorem ext_list (s : ByteArray) (a b : Nat) : (s.extract a b).toList = (s.data.toList.drop a).take (b - a) := by
  rw [ByteArray.toList_eq, ByteArray.data_extract, Array.toList_extract, List.extract_eq_take_drop]
theorem size_len (s : ByteArray) : s.data.toList.length = s.size := by rw [Array.length_toList]; rfl

theorem tail_test (s t : ByteArray) (h : t.size ≤ s.size) : ((s.extract (s.size - t.size) s.size).toList == t.toList) = decide (t.data.toList <:+ s.data.toList) := by
  rw [ext_list, ByteArray.toList_eq, Bool.eq_iff_iff, beq_iff_eq, decide_eq_true_eq]
  have e1 := size_len s
  have e2 := size_len t
  rw [List.take_of_length_le (by rw [List.length_drop]; omega), ← e1, ← e2]
  constructor
  · intro hh; rw [← hh]; exact List.drop_suffix _ _
  · intro hh; exact (List.suffix_iff_eq_drop.1 hh).symm
theorem head_test (s t : ByteArray) (h : t.size ≤ s.size) : ((s.extract 0 t.size).toList == t.toList) = decide (t.data.toList <+: s.data.toList) := by
  rw [ext_list, ByteArray.toList_eq, Bool.eq_iff_iff, beq_iff_eq, decide_eq_true_eq]
  have e2 := size_len t
  rw [List.drop_zero, Nat.sub_zero, ← e2]
  constructor
  · intro hh; rw [← hh]; exact List.take_prefix _ _
  · intro hh; exact (List.prefix_iff_eq_take.1 hh).symm

set_option maxHeartbeats 1000000 in
theorem spec_ends (s t : ByteArray) (hs : s.size ≤ 2147483647) (ht : t.size ≤ 2147483647) (w : World) :
    Calls Try.prog 23 #[.string s, .string t] w fun x w' => x = .returned (.bool (decide (t.data.toList <:+ s.data.toList))) ∧ w = w' := by
  by_cases h : t.size ≤ s.size
  · have hr := Lib.hid (tail_test s t h)
    go_enter Try.func23, Try.ntmps23
    go_wp2
    go_ret
    exact ⟨by rw [← hr.out]; rfl, rfl⟩
  · have hr : decide (t.data.toList <:+ s.data.toList) = false := by
      rw [decide_eq_false_iff_not]; intro hh; have := hh.length_le
      rw [size_len, size_len] at this; exact h this
    rw [hr]
    have hd : decide (t.size ≤ s.size) = false := by simpa using h
    clear hr
    go_enter Try.func23, Try.ntmps23
    go_wp2
    go_ret
    exact ⟨rfl, rfl⟩

set_option maxHeartbeats 1000000 in
theorem spec_begins (s t : ByteArray) (hs : s.size ≤ 2147483647) (ht : t.size ≤ 2147483647) (w : World) :
    Calls Try.prog 45 #[.string s, .string t] w fun x w' => x = .returned (.bool (decide (t.data.toList <+: s.data.toList))) ∧ w = w' := by
  by_cases h : t.size ≤ s.size
  · have hr := Lib.hid (head_test s t h)
    go_enter Try.func45, Try.ntmps45
    go_wp2
    go_ret
    exact ⟨by rw [← hr.out]; rfl, rfl⟩
  · have hr : decide (t.data.toList <+: s.data.toList) = false := by
      rw [decide_eq_false_iff_not]; intro hh; have := hh.length_le
      rw [size_len, size_len] at this; exact h this
    rw [hr]
    have hd : decide (t.size ≤ s.size) = false := by simpa using h
    clear hr
    go_enter Try.func45, Try.ntmps45
    go_wp2
    go_ret
    exact ⟨rfl, rfl⟩
end Go.Proofs.Ytaohmmpfiehniaa
