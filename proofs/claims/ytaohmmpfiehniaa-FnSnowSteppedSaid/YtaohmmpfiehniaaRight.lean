/- The contracts of laws.zzFits6, spec.SnowRight and spec.From. -/
import Derived.Test.YtaohmmpfiehniaaLawNew
set_option linter.unusedVariables false
set_option linter.unusedSimpArgs false
namespace Go.Proofs.Ytaohmmpfiehniaa
open Go.RowKit

theorem fits6 (s : ByteArray) (r1 r2 rv : Int) (w : World) : Calls Try.prog 12 #[snowV s r1 r2 rv] w fun x w' => x = .returned (.bool (decide (s.size ≤ 2147483647))) ∧ Below w.heap.size w w' := by
  have hb : Below w.heap.size w (w.alloc (.cells #[.string s, .int .i64 r1, .int .i64 r2, .int .i64 rv] 27)) := (Below.refl _ _).alloc (Nat.le_refl _) _
  by_cases hs : s.size ≤ 2147483647
  · have ht : decide ((2147483647 : Int) < (s.size : Int)) = false := by rw [decide_eq_false_iff_not]; omega
    have hd : decide (s.size ≤ 2147483647) = true := by simpa using hs
    rw [hd]
    clear hs hd
    unfold snowV
    go_enter Try.func12, Try.ntmps12
    go_wp2
    go_ret
    exact ⟨rfl, hb⟩
  · have ht : decide ((2147483647 : Int) < (s.size : Int)) = true := by rw [decide_eq_true_eq]; omega
    have hd : decide (s.size ≤ 2147483647) = false := by simpa using hs
    rw [hd]
    clear hs hd
    unfold snowV
    go_enter Try.func12, Try.ntmps12
    go_wp2
    go_ret
    exact ⟨rfl, hb⟩

/-- A word whose regions begin within it. -/
def Right (s : ByteArray) (r1 r2 rv : Int) : Prop := IsWhole s 60 ∧ (0 ≤ r1 ∧ r1 ≤ (runesOf s).length) ∧ (0 ≤ r2 ∧ r2 ≤ (runesOf s).length) ∧ (0 ≤ rv ∧ rv ≤ (runesOf s).length)
instance (s : ByteArray) (r1 r2 rv : Int) : Decidable (Right s r1 r2 rv) := by unfold Right; infer_instance

set_option maxHeartbeats 2000000 in
theorem snow_right (s : ByteArray) (r1 r2 rv : Int) (hs : s.size ≤ 2147483647) (w : World) : Calls Try.prog 14 #[snowV s r1 r2 rv] w fun x w' => x = .returned (.bool (decide (Right s r1 r2 rv))) ∧ Below w.heap.size w w' := by
  have hb : Below w.heap.size w (w.alloc (.cells #[.string s, .int .i64 r1, .int .i64 r2, .int .i64 rv] 27)) := (Below.refl _ _).alloc (Nat.le_refl _) _
  have hr := RowAt.new w #[.string s, .int .i64 r1, .int .i64 r2, .int .i64 rv] 27
  have step : ∀ (b0 b1 b2 b3 b4 b5 b6 v : Bool) (n : Int), ((runesOf s).length : Int) = n → decide (IsWhole s 60) = b0 → decide (0 ≤ r1) = b1 → decide (r1 ≤ n) = b2 → decide (0 ≤ r2) = b3 → decide (r2 ≤ n) = b4 → decide (0 ≤ rv) = b5 → decide (rv ≤ n) = b6 →
      v = (b0 && b1 && b2 && b3 && b4 && b5 && b6) → Calls Try.prog 14 #[snowV s r1 r2 rv] w fun x w' => x = .returned (.bool v) ∧ Below w.heap.size w w' := by
    intro b0 b1 b2 b3 b4 b5 b6 v n hn h0 h1 h2 h3 h4 h5 h6 hv
    have HV := Lib.hid hv
    clear hv
    unfold snowV
    go_enter Try.func14, Try.ntmps14
    go_wp2_with fail
    generalize w.alloc (.cells #[.string s, .int .i64 r1, .int .i64 r2, .int .i64 rv] 27) = W at *
    refine (runes_fn s hs W).mono ?_
    rintro x w1 ⟨⟨b, cap, rfl, _, hc1, hc2⟩, hb1⟩
    have HB1 := Lib.hid (hb.trans (hb1.mono hb.size))
    have q := hr.below hb1
    have q0 : w1.cell? ⟨w.heap.size, 0, none⟩ = some (.string s) := q 0 _ rfl
    have HR1 := Lib.hid q
    clear hb hb1 hr q
    go_wp2_with fail
    refine (whole s 60 hs w1).mono ?_
    rintro x w2 ⟨rfl, hb2⟩
    have HB2 := Lib.hid (HB1.out.trans (hb2.mono HB1.out.size))
    have q := HR1.out.below hb2
    have q1 : w2.cell? ⟨w.heap.size, 1, none⟩ = some (.int .i64 r1) := q 1 _ rfl
    have q2 : w2.cell? ⟨w.heap.size, 2, none⟩ = some (.int .i64 r2) := q 2 _ rfl
    have q3 : w2.cell? ⟨w.heap.size, 3, none⟩ = some (.int .i64 rv) := q 3 _ rfl
    rw [h0]
    clear hb2 q q0 h0 hn
    cases b0 <;> (try cases b1) <;> (try cases b2) <;> (try cases b3) <;> (try cases b4) <;> (try cases b5) <;> (try cases b6) <;> first
      | (go_wp2; go_ret; exact ⟨by rw [HV.out]; rfl, HB2.out⟩)
  refine step _ _ _ _ _ _ _ _ _ rfl rfl rfl rfl rfl rfl rfl rfl ?_
  rw [Bool.eq_iff_iff]
  simp [Right, and_assoc]

end Go.Proofs.Ytaohmmpfiehniaa
