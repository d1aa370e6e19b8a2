/- The walk of laws.FnFloatInt: true for all bits. -/
import Derived.Test.YtkhmomagjkdcdaaDoorSorted
import Derived.Test.YtkhmomagjkdcdaaDoorAwake
import Derived.Laws.Externs
import Derived.WalkLawsBesides
set_option linter.unusedVariables false
set_option linter.unusedSimpArgs false
namespace Go.Proofs.YtkhmomagjkdcdaaDoor
open Go.RowKit

theorem frombits (n : Int) (w : World) : (callFunc 19 #[.int .u64 n]).run Tryd.prog w = .ok (.value (.float .f64 n.toNat)) w := by
  rw [run_callFunc_extern (e := Extern.MathFloatBits.float64frombits) Tryd.func19 (by kernel_rfl) (by kernel_rfl) (by kernel_rfl) (by kernel_rfl)]
  rfl
theorem tobits (n : Nat) (w : World) : (callFunc 30 #[.float .f64 n]).run Tryd.prog w = .ok (.value (.int .u64 n)) w := by
  rw [run_callFunc_extern (e := Extern.MathFloatBits.float64bits) Tryd.func30 (by kernel_rfl) (by kernel_rfl) (by kernel_rfl) (by kernel_rfl)]
  rfl

theorem float_int (N : Nat) (h1 : N < 18446744073709551616) (w : World) : Calls Tryd.prog 16 #[.int .u64 (N : Int)] w fun e w' => e = .returned (.int .i64 (fSort N)) ∧ w = w' := by
  have k1 := frombits N
  have k2 := tobits N
  simp only [Int.toNat_natCast] at k1
  by_cases h : N < 9223372036854775808
  · have hs := sort_low N h
    have hr := (fSort_sign N h1).1
    have hn : ¬ fSort N < 0 := by omega
    clear hr
    have HN := Lib.hid h
    clear h
    go_enter Tryd.func16, Tryd.ntmps16
    go_wp2
    go_ret
    exact ⟨rfl, rfl⟩
  · have hs := sort_high N (by omega) h1
    have hw : wrap64 (N : Int) < 0 := by unfold wrap64; omega
    go_enter Tryd.func16, Tryd.ntmps16
    go_wp2
    go_ret
    exact ⟨by simp [hs], rfl⟩

theorem sorted_int (N : Nat) (h1 : N < 18446744073709551616) (w : World) : Calls Tryd.prog 17 #[.int .u64 (N : Int)] w fun e w' => e = .returned (.int .i64 (fSort N)) ∧ w = w' := by
  by_cases h : N < 9223372036854775808
  · have hs : fSort N = (N : Int) := by unfold fSort; rw [if_pos h]
    have ht : ((N : Int) / 9223372036854775808 == 1) = false := by rw [beq_eq_false_iff_ne]; omega
    go_enter Tryd.func17, Tryd.ntmps17
    go_wp2
    go_ret
    exact ⟨by simp [hs], rfl⟩
  · have hs := sort_spec N (by omega) h1
    have ht : ((N : Int) / 9223372036854775808 == 1) = true := by rw [beq_iff_eq]; omega
    go_enter Tryd.func17, Tryd.ntmps17
    go_wp2
    go_ret
    exact ⟨by simp [hs], rfl⟩

theorem int_float (N : Nat) (h1 : N < 18446744073709551616) (w : World) : Calls Tryd.prog 18 #[.int .i64 (fSort N)] w fun e w' => e = .returned (.int .u64 (N : Int)) ∧ w = w' := by
  have k1 := frombits N
  have k2 := tobits N
  simp only [Int.toNat_natCast] at k1
  by_cases h : N < 9223372036854775808
  · have hs := unsort_low N h
    have hr := (fSort_sign N h1).1
    have hn : ¬ fSort N < 0 := by omega
    clear hr
    generalize fSort N = m at *
    have HN := Lib.hid h
    clear h
    go_enter Tryd.func18, Tryd.ntmps18
    go_wp2
    go_ret
    exact ⟨rfl, rfl⟩
  · have hs := unsort_high N (by omega) h1
    have hn : fSort N < 0 := (fSort_sign N h1).1.2 (by omega)
    generalize fSort N = m at *
    go_enter Tryd.func18, Tryd.ntmps18
    go_wp2
    go_ret
    exact ⟨rfl, rfl⟩

set_option maxHeartbeats 1000000 in
theorem walk_float (x y : Int) (hx0 : 0 ≤ x) (hx1 : x ≤ 18446744073709551615) (hy0 : 0 ≤ y) (hy1 : y ≤ 18446744073709551615) (w : World) (ht : Tabs w) :
    Calls Tryd.prog 6 #[.int .u64 x, .int .u64 y] w fun e w' => e = .returned (.bool true) ∧ Below w.heap.size w w' := by
  obtain ⟨A, rfl⟩ := Int.eq_ofNat_of_zero_le hx0
  obtain ⟨B, rfl⟩ := Int.eq_ofNat_of_zero_le hy0
  have hA : A < 18446744073709551616 := by omega
  have hB : B < 18446744073709551616 := by omega
  have HT := Lib.hid ht
  have kA := frombits A
  have kB := frombits B
  simp only [Int.toNat_natCast] at kA kB
  have FA := Lib.hid (fun w => float_int A hA w)
  have FB := Lib.hid (fun w => float_int B hB w)
  have SA := Lib.hid (fun w => sorted_int A hA w)
  have SB := Lib.hid (fun w => sorted_int B hB w)
  have IA := Lib.hid (fun w => int_float A hA w)
  have IB := Lib.hid (fun w => int_float B hB w)
  have HO := Lib.hid (order_sorted A B hA hB)
  clear ht
  generalize fSort A = m at *
  generalize fSort B = n at *
  have step : ∀ (b : Bool), (FloatKind.f64.format.order A B == some Ordering.lt) = b → (b = true → decide (m < n) = true) → Calls Tryd.prog 6 #[.int .u64 (A : Int), .int .u64 (B : Int)] w fun e w' => e = .returned (.bool true) ∧ Below w.heap.size w w' := by
    intro b hb hlt
    have HLT := Lib.hid hlt
    clear hlt
    go_enter Tryd.func6, Tryd.ntmps6
    go_wp2_with fail
    refine (FA.out w).mono ?_
    rintro e w' ⟨rfl, rfl⟩
    go_wp2_with fail
    refine (FB.out w).mono ?_
    rintro e w' ⟨rfl, rfl⟩
    go_wp2_with fail
    refine (SA.out w).mono ?_
    rintro e w' ⟨rfl, rfl⟩
    go_wp2_with fail
    refine (SB.out w).mono ?_
    rintro e w' ⟨rfl, rfl⟩
    go_wp2_with fail
    refine (IA.out w).mono ?_
    rintro e w' ⟨rfl, rfl⟩
    go_wp2_with fail
    refine (IB.out w).mono ?_
    rintro e w' ⟨rfl, rfl⟩
    go_wp2_with fail
    refine (awake w HT.out).mono ?_
    rintro e w1 ⟨rfl, hbl⟩
    have HB := Lib.hid hbl
    clear hbl
    cases b with
    | true =>
      have hl := HLT.out rfl
      go_wp2
      go_ret
      exact ⟨by simp [hl], HB.out⟩
    | false =>
      go_wp2
      go_ret
      exact ⟨by simp, HB.out⟩
  exact step _ rfl (fun hb => by rw [decide_eq_true_eq]; exact HO.out hb)
end Go.Proofs.YtkhmomagjkdcdaaDoor
