/- The walk of laws.FnSnowRegions: true whatever the word and the number. -/
import Derived.Test.YtaohmmpfiehniaaRegions
import Derived.Test.YtaohmmpfiehniaaRight
set_option linter.unusedVariables false
set_option linter.unusedSimpArgs false
namespace Go.Proofs.Ytaohmmpfiehniaa
open Go.RowKit

theorem conv8 (x : Int) (h : 0 ≤ x ∧ x ≤ 255) (w : World) : (convert 5 3 (.int .u8 x)).run Try.prog w = .ok (.int .i64 x) w := by
  have hw : IntKind.i64.wrap x = x := by simp [IntKind.wrap, IntKind.min, IntKind.max, IntKind.signed, IntKind.bits]; omega
  simp [convert, run_underlying Try.underlying5, run_underlying Try.underlying3, go_sem, hw]
theorem eq_fits (a b c : Bool) (w : World) : (binOp .eql 49 (.agg #[.bool a, .bool b, .bool c]) (.agg #[.bool a, .bool b, .bool c])).run Try.prog w = .ok (.bool true) w := by
  cases a <;> cases b <;> cases c <;> kernel_rfl

set_option maxHeartbeats 4000000 in
theorem regions_main (s : ByteArray) (rs : List Int) (hrs : runesOf s = rs) (k1 k2 k3 : Nat) (h1 : k1 ≤ rs.length) (h2 : k2 ≤ rs.length) (h3 : k3 ≤ rs.length) (hs : s.size ≤ 2147483647) (hr : decide (Right s k1 k2 k3) = true) (x : Int) (hx : 0 ≤ x ∧ x ≤ 255) (hx100 : ¬ 100 < x) (w : World) :
    Calls Try.prog 7 #[snowV s k1 k2 k3, .int .u8 x] w fun e w' => e = .returned (.bool true) ∧ Below w.heap.size w w' := by
  have hn : rs.length ≤ 2147483647 := by rw [← hrs]; exact runesOf_small s hs
  have hR : Runes s rs := by rw [← hrs]; exact runes_of s (by omega)
  obtain ⟨m, hm⟩ : ∃ m, ((rs.length : Nat) : Int) - x = m := ⟨_, rfl⟩
  obtain ⟨t1, ht1⟩ : ∃ t, runesBytes (rs.drop k1) = t := ⟨_, rfl⟩
  obtain ⟨t2, ht2⟩ : ∃ t, runesBytes (rs.drop k2) = t := ⟨_, rfl⟩
  obtain ⟨t3, ht3⟩ : ∃ t, runesBytes (rs.drop k3) = t := ⟨_, rfl⟩
  obtain ⟨d1, hd1⟩ : ∃ v, decide ((k1 : Int) ≤ m) = v := ⟨_, rfl⟩
  obtain ⟨d2, hd2⟩ : ∃ v, decide ((k2 : Int) ≤ m) = v := ⟨_, rfl⟩
  obtain ⟨d3, hd3⟩ : ∃ v, decide ((k3 : Int) ≤ m) = v := ⟨_, rfl⟩
  have FR := Lib.hid (regions s rs hR k1 k2 k3 h1 h2 h3 hn x m hx hm t1 t2 t3 ht1 ht2 ht3 d1 d2 d3 hd1 hd2 hd3)
  have G1 := Lib.hid (from_at s rs hrs k1 hs h1)
  have G2 := Lib.hid (from_at s rs hrs k2 hs h2)
  have G3 := Lib.hid (from_at s rs hrs k3 hs h3)
  rw [ht1] at G1
  rw [ht2] at G2
  rw [ht3] at G3
  have RF := Lib.hid (runes_fn s hs)
  rw [hrs] at RF
  have F6 := Lib.hid (fits6 s k1 k2 k3)
  have SR := Lib.hid (snow_right s k1 k2 k3 hs)
  rw [hr] at SR
  rw [show decide (s.size ≤ 2147483647) = true by simpa using hs] at F6
  have hcx := conv8 x hx
  have hx1 : decide (100 < x) = false := by simpa using hx100
  have hwm : IntKind.i64.wrap ((rs.length : Int) - x) = m := by rw [← hm]; simp [IntKind.wrap, IntKind.min, IntKind.max, IntKind.signed, IntKind.bits]; omega
  have heq := eq_fits d1 d2 d3
  have hb0 : Below w.heap.size w (w.alloc (.cells #[.string s, .int .i64 k1, .int .i64 k2, .int .i64 k3] 27)) := (Below.refl _ _).alloc (Nat.le_refl _) _
  have hr0 := RowAt.new w #[.string s, .int .i64 k1, .int .i64 k2, .int .i64 k3] 27
  have HB := Lib.hid hb0
  have HR := Lib.hid hr0
  clear hb0 hr0 hm ht1 ht2 ht3 h1 h2 h3 hn hR hs hr hx hx100 hrs
  unfold snowV at FR F6 SR ⊢
  generalize rs.length = n at *
  go_enter Try.func7, Try.ntmps7
  go_wp2_with fail
  generalize w.alloc (.cells #[.string s, .int .i64 k1, .int .i64 k2, .int .i64 k3] 27) = W0 at *
  obtain ⟨A, hA⟩ : ∃ a, w.heap.size = a := ⟨_, rfl⟩
  rw [hA] at HR ⊢
  refine (F6.out _).mono ?_
  rintro e w1 ⟨rfl, hb⟩
  have HB1 := Lib.hid (HB.out.trans (hb.mono HB.out.size))
  have HR1 := Lib.hid (HR.out.below hb)
  have a0 : w1.cell? ⟨A, 0, none⟩ = some (.string s) := HR1.out 0 _ rfl
  have a1 : w1.cell? ⟨A, 1, none⟩ = some (.int .i64 k1) := HR1.out 1 _ rfl
  have a2 : w1.cell? ⟨A, 2, none⟩ = some (.int .i64 k2) := HR1.out 2 _ rfl
  have a3 : w1.cell? ⟨A, 3, none⟩ = some (.int .i64 k3) := HR1.out 3 _ rfl
  clear hb HB HR
  go_wp2_with fail
  refine (SR.out _).mono ?_
  rintro e w2 ⟨rfl, hb⟩
  have HB2 := Lib.hid (HB1.out.trans (hb.mono HB1.out.size))
  have HR2 := Lib.hid (HR1.out.below hb)
  clear a0 a1 a2 a3 hb HB1 HR1
  have a0 : w2.cell? ⟨A, 0, none⟩ = some (.string s) := HR2.out 0 _ rfl
  have a1 : w2.cell? ⟨A, 1, none⟩ = some (.int .i64 k1) := HR2.out 1 _ rfl
  have a2 : w2.cell? ⟨A, 2, none⟩ = some (.int .i64 k2) := HR2.out 2 _ rfl
  have a3 : w2.cell? ⟨A, 3, none⟩ = some (.int .i64 k3) := HR2.out 3 _ rfl
  go_wp2_with fail
  refine (FR.out _).mono ?_
  rintro e w3 ⟨rfl, hb⟩
  have HB3 := Lib.hid ((HB2.out.trans (hb.mono HB2.out.size)).alloc (HB2.out.trans (hb.mono HB2.out.size)).size (.cells #[.bool d1, .bool d2, .bool d3] 49))
  have hr3 := HR2.out.below hb
  have HR3 := Lib.hid (hr3.below ((Below.refl _ _).alloc (Nat.le_refl _) (.cells #[.bool d1, .bool d2, .bool d3] 49)))
  have HF3 := Lib.hid (RowAt.new w3 #[.bool d1, .bool d2, .bool d3] 49)
  have hne := World.new_ne w3 _ (hr3 0 _ rfl)
  clear a0 a1 a2 a3 hb hr3 HB2 HR2
  have a0 : (w3.alloc (.cells #[.bool d1, .bool d2, .bool d3] 49)).cell? ⟨A, 0, none⟩ = some (.string s) := HR3.out 0 _ rfl
  go_wp2_with fail
  generalize w3.alloc (.cells #[.bool d1, .bool d2, .bool d3] 49) = W3 at *
  obtain ⟨Q, hQ⟩ : ∃ a, w3.heap.size = a := ⟨_, rfl⟩
  rw [hQ] at HF3 ⊢
  refine (RF.out _).mono ?_
  rintro e w4 ⟨⟨b, cap, rfl, _, _, _⟩, hb⟩
  have HB4 := Lib.hid (HB3.out.trans (hb.mono HB3.out.size))
  have HR4 := Lib.hid (HR3.out.below hb)
  have HF4 := Lib.hid (HF3.out.below hb)
  clear a0 hb HB3 HR3 HF3 hne hQ
  go_wp2_with fail
  refine (awake _).mono ?_
  rintro e w5 ⟨rfl, hb⟩
  have HB5 := Lib.hid (HB4.out.trans (hb.mono HB4.out.size))
  have HR5 := Lib.hid (HR4.out.below hb)
  have HF5 := Lib.hid (HF4.out.below hb)
  clear hb HB4 HR4 HF4
  have a0 : w5.cell? ⟨A, 0, none⟩ = some (.string s) := HR5.out 0 _ rfl
  have a1 : w5.cell? ⟨A, 1, none⟩ = some (.int .i64 k1) := HR5.out 1 _ rfl
  go_wp2_with fail
  refine (G1.out _).mono ?_
  rintro e w6 ⟨rfl, hb⟩
  have HB6 := Lib.hid (HB5.out.trans (hb.mono HB5.out.size))
  have HR6 := Lib.hid (HR5.out.below hb)
  have HF6 := Lib.hid (HF5.out.below hb)
  clear a0 a1 hb HB5 HR5 HF5
  have a0 : w6.cell? ⟨A, 0, none⟩ = some (.string s) := HR6.out 0 _ rfl
  have a2 : w6.cell? ⟨A, 2, none⟩ = some (.int .i64 k2) := HR6.out 2 _ rfl
  go_wp2_with fail
  refine (G2.out _).mono ?_
  rintro e w7 ⟨rfl, hb⟩
  have HB7 := Lib.hid (HB6.out.trans (hb.mono HB6.out.size))
  have HR7 := Lib.hid (HR6.out.below hb)
  have HF7 := Lib.hid (HF6.out.below hb)
  clear a0 a2 hb HB6 HR6 HF6
  have a0 : w7.cell? ⟨A, 0, none⟩ = some (.string s) := HR7.out 0 _ rfl
  have a3 : w7.cell? ⟨A, 3, none⟩ = some (.int .i64 k3) := HR7.out 3 _ rfl
  go_wp2_with fail
  refine (G3.out _).mono ?_
  rintro e w8 ⟨rfl, hb⟩
  have HB8 := Lib.hid (HB7.out.trans (hb.mono HB7.out.size))
  have r := HR7.out.below hb
  have f := HF7.out.below hb
  clear a0 a3 hb HB7 HR7 HF7
  have a1 : w8.cell? ⟨A, 1, none⟩ = some (.int .i64 k1) := r 1 _ rfl
  have a2 : w8.cell? ⟨A, 2, none⟩ = some (.int .i64 k2) := r 2 _ rfl
  have a3 : w8.cell? ⟨A, 3, none⟩ = some (.int .i64 k3) := r 3 _ rfl
  have b0 : w8.cell? ⟨Q, 0, none⟩ = some (.bool d1) := f 0 _ rfl
  have b1 : w8.cell? ⟨Q, 1, none⟩ = some (.bool d2) := f 1 _ rfl
  have b2 : w8.cell? ⟨Q, 2, none⟩ = some (.bool d3) := f 2 _ rfl
  clear r f
  go_wp2
  go_ret
  exact ⟨rfl, HB8.out⟩

set_option maxHeartbeats 2000000 in
theorem walk_regions (s : ByteArray) (r1 r2 rv : Int) (_ : s.size ≤ maxLen) (x : Int) (hx0 : 0 ≤ x) (hx1 : x ≤ 255) (w : World) :
    Calls Try.prog 7 #[snowV s r1 r2 rv, .int .u8 x] w fun e w' => e = .returned (.bool true) ∧ Below w.heap.size w w' := by
  by_cases hmain : s.size ≤ 2147483647 ∧ decide (Right s r1 r2 rv) = true ∧ ¬ 100 < x
  · obtain ⟨hs, hr, hx⟩ := hmain
    have hR := of_decide_eq_true hr
    obtain ⟨k1, rfl⟩ := Int.eq_ofNat_of_zero_le hR.2.1.1
    obtain ⟨k2, rfl⟩ := Int.eq_ofNat_of_zero_le hR.2.2.1.1
    obtain ⟨k3, rfl⟩ := Int.eq_ofNat_of_zero_le hR.2.2.2.1
    have q1 := hR.2.1.2
    have q2 := hR.2.2.1.2
    have q3 := hR.2.2.2.2
    exact regions_main s (runesOf s) rfl k1 k2 k3 (by omega) (by omega) (by omega) hs hr x ⟨hx0, hx1⟩ hx w
  · have F6 := Lib.hid (fits6 s r1 r2 rv)
    have hb0 : Below w.heap.size w (w.alloc (.cells #[.string s, .int .i64 r1, .int .i64 r2, .int .i64 rv] 27)) := (Below.refl _ _).alloc (Nat.le_refl _) _
    have hr0 := RowAt.new w #[.string s, .int .i64 r1, .int .i64 r2, .int .i64 rv] 27
    have HB := Lib.hid hb0
    have HR := Lib.hid hr0
    clear hb0 hr0
    by_cases hs : s.size ≤ 2147483647
    · rw [show decide (s.size ≤ 2147483647) = true by simpa using hs] at F6
      have SR := Lib.hid (snow_right s r1 r2 rv hs)
      cases hr : decide (Right s r1 r2 rv) with
      | false =>
        rw [hr] at SR
        clear hmain hs hr
        unfold snowV at F6 SR ⊢
        go_enter Try.func7, Try.ntmps7
        go_wp2_with fail
        generalize w.alloc (.cells #[.string s, .int .i64 r1, .int .i64 r2, .int .i64 rv] 27) = W0 at *
        obtain ⟨A, hA⟩ : ∃ a, w.heap.size = a := ⟨_, rfl⟩
        rw [hA] at HR ⊢
        refine (F6.out _).mono ?_
        rintro e w1 ⟨rfl, hb⟩
        have HB1 := Lib.hid (HB.out.trans (hb.mono HB.out.size))
        have hr1 := HR.out.below hb
        have a0 : w1.cell? ⟨A, 0, none⟩ = some (.string s) := hr1 0 _ rfl
        have a1 : w1.cell? ⟨A, 1, none⟩ = some (.int .i64 r1) := hr1 1 _ rfl
        have a2 : w1.cell? ⟨A, 2, none⟩ = some (.int .i64 r2) := hr1 2 _ rfl
        have a3 : w1.cell? ⟨A, 3, none⟩ = some (.int .i64 rv) := hr1 3 _ rfl
        clear hb HB HR hr1
        go_wp2_with fail
        refine (SR.out _).mono ?_
        rintro e w2 ⟨rfl, hb⟩
        have HB2 := Lib.hid (HB1.out.trans (hb.mono HB1.out.size))
        clear a0 a1 a2 a3 hb HB1
        go_wp2_with fail
        refine (awake _).mono ?_
        rintro e w3 ⟨rfl, hb⟩
        have HB3 := Lib.hid (HB2.out.trans (hb.mono HB2.out.size))
        clear hb HB2
        go_wp2
        go_ret
        exact ⟨rfl, HB3.out⟩
      | true =>
        rw [hr] at SR
        have hx : 100 < x := by
          by_cases h : 100 < x
          · exact h
          · exact absurd ⟨hs, hr, h⟩ hmain
        have hxd : decide (100 < x) = true := by simpa using hx
        clear hmain hs hr hx
        unfold snowV at F6 SR ⊢
        go_enter Try.func7, Try.ntmps7
        go_wp2_with fail
        generalize w.alloc (.cells #[.string s, .int .i64 r1, .int .i64 r2, .int .i64 rv] 27) = W0 at *
        obtain ⟨A, hA⟩ : ∃ a, w.heap.size = a := ⟨_, rfl⟩
        rw [hA] at HR ⊢
        refine (F6.out _).mono ?_
        rintro e w1 ⟨rfl, hb⟩
        have HB1 := Lib.hid (HB.out.trans (hb.mono HB.out.size))
        have hr1 := HR.out.below hb
        have a0 : w1.cell? ⟨A, 0, none⟩ = some (.string s) := hr1 0 _ rfl
        have a1 : w1.cell? ⟨A, 1, none⟩ = some (.int .i64 r1) := hr1 1 _ rfl
        have a2 : w1.cell? ⟨A, 2, none⟩ = some (.int .i64 r2) := hr1 2 _ rfl
        have a3 : w1.cell? ⟨A, 3, none⟩ = some (.int .i64 rv) := hr1 3 _ rfl
        clear hb HB HR hr1
        go_wp2_with fail
        refine (SR.out _).mono ?_
        rintro e w2 ⟨rfl, hb⟩
        have HB2 := Lib.hid (HB1.out.trans (hb.mono HB1.out.size))
        clear a0 a1 a2 a3 hb HB1
        go_wp2_with fail
        refine (awake _).mono ?_
        rintro e w3 ⟨rfl, hb⟩
        have HB3 := Lib.hid (HB2.out.trans (hb.mono HB2.out.size))
        clear hb HB2
        go_wp2
        go_ret
        exact ⟨rfl, HB3.out⟩
    · rw [show decide (s.size ≤ 2147483647) = false by simpa using hs] at F6
      clear hmain hs
      unfold snowV at F6 ⊢
      go_enter Try.func7, Try.ntmps7
      go_wp2_with fail
      generalize w.alloc (.cells #[.string s, .int .i64 r1, .int .i64 r2, .int .i64 rv] 27) = W0 at *
      refine (F6.out _).mono ?_
      rintro e w1 ⟨rfl, hb⟩
      have HB1 := Lib.hid (HB.out.trans (hb.mono HB.out.size))
      clear hb HB HR
      go_wp2
      go_ret
      exact ⟨rfl, HB1.out⟩
end Go.Proofs.Ytaohmmpfiehniaa
