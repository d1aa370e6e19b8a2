/- The walk of laws.FnSnowFirst: true whatever the word and the texts. -/
import Derived.Test.YtaohmmpfiehniaaFirst
import Derived.Test.YtaohmmpfiehniaaRight
set_option linter.unusedVariables false
set_option linter.unusedSimpArgs false
namespace Go.Proofs.Ytaohmmpfiehniaa
open Go.RowKit

set_option maxHeartbeats 4000000 in
theorem law_first (s : ByteArray) (r1 r2 rv : Int) (ad : Option Addr) (k tcap : Nat) (ss : List ByteArray) (a b c d : Bool)
    (F6 : ∀ w, Calls Try.prog 12 #[snowV s r1 r2 rv] w fun x w' => x = .returned (.bool a) ∧ Below w.heap.size w w')
    (F4 : ∀ w, StrsAt w ad ss → Calls Try.prog 18 #[.slice ad k tcap] w fun x w' => x = .returned (.bool b) ∧ w = w')
    (SR : a = true → ∀ w, Calls Try.prog 14 #[snowV s r1 r2 rv] w fun x w' => x = .returned (.bool c) ∧ Below w.heap.size w w')
    (TR : a = true → b = true → ∀ w, StrsAt w ad ss → Calls Try.prog 15 #[.slice ad k tcap] w fun x w' => x = .returned (.bool d) ∧ Below w.heap.size w w')
    (MN : a = true → b = true → c = true → d = true → ∃ t1 t2, (∀ w, StrsAt w ad ss → Calls Try.prog 24 #[snowV s r1 r2 rv, .slice ad k tcap] w fun e w' => e = .returned (.tuple #[.string t1, .string t2]) ∧ Below w.heap.size w w') ∧
      (∀ w, StrsAt w ad ss → Calls Try.prog 21 #[.string s, .slice ad k tcap, .bool true] w fun x w' => x = .returned (.string t1) ∧ w = w') ∧ (∀ w, StrsAt w ad ss → Calls Try.prog 21 #[.string s, .slice ad k tcap, .bool false] w fun x w' => x = .returned (.string t2) ∧ w = w'))
    (w : World) (ht : StrsAt w ad ss) : Calls Try.prog 6 #[snowV s r1 r2 rv, .slice ad k tcap] w fun e w' => e = .returned (.bool true) ∧ Below w.heap.size w w' := by
  have hb0 : Below w.heap.size w (w.alloc (.cells #[.string s, .int .i64 r1, .int .i64 r2, .int .i64 rv] 27)) := (Below.refl _ _).alloc (Nat.le_refl _) _
  have hr0 := RowAt.new w #[.string s, .int .i64 r1, .int .i64 r2, .int .i64 rv] 27
  have HB := Lib.hid hb0
  have HR := Lib.hid hr0
  have HT := Lib.hid (ht.below hb0)
  have H6 := Lib.hid F6
  have H4 := Lib.hid F4
  have HS := Lib.hid SR
  have HX := Lib.hid TR
  have HM := Lib.hid MN
  clear hb0 hr0 ht F6 F4 SR TR MN
  unfold snowV at H6 HS HM ⊢
  obtain ⟨sv, hsv⟩ : ∃ sv, Value.slice ad k tcap = sv := ⟨_, rfl⟩
  rw [hsv] at H4 HX HM ⊢
  go_enter Try.func6, Try.ntmps6
  go_wp2_with fail
  generalize w.alloc (.cells #[.string s, .int .i64 r1, .int .i64 r2, .int .i64 rv] 27) = W0 at *
  obtain ⟨A, hA⟩ : ∃ q, w.heap.size = q := ⟨_, rfl⟩
  rw [hA] at HR ⊢
  refine (H6.out _).mono ?_
  rintro e w1 ⟨rfl, hb⟩
  have HB1 := Lib.hid (HB.out.trans (hb.mono HB.out.size))
  have HR1 := Lib.hid (HR.out.below hb)
  have HT1 := Lib.hid (HT.out.below hb)
  clear hb HB HR HT
  cases a with
  | false =>
    go_wp2
    go_ret
    exact ⟨rfl, HB1.out⟩
  | true =>
    go_wp2_with fail
    refine (H4.out _ HT1.out).mono ?_
    rintro e w2 ⟨rfl, rfl⟩
    cases b with
    | false =>
      go_wp2
      go_ret
      exact ⟨rfl, HB1.out⟩
    | true =>
      have a0 : w1.cell? ⟨A, 0, none⟩ = some (.string s) := HR1.out 0 _ rfl
      have a1 : w1.cell? ⟨A, 1, none⟩ = some (.int .i64 r1) := HR1.out 1 _ rfl
      have a2 : w1.cell? ⟨A, 2, none⟩ = some (.int .i64 r2) := HR1.out 2 _ rfl
      have a3 : w1.cell? ⟨A, 3, none⟩ = some (.int .i64 rv) := HR1.out 3 _ rfl
      go_wp2_with fail
      refine (HS.out (by simp) _).mono ?_
      rintro e w2 ⟨rfl, hb⟩
      have HB2 := Lib.hid (HB1.out.trans (hb.mono HB1.out.size))
      have HR2 := Lib.hid (HR1.out.below hb)
      have HT2 := Lib.hid (HT1.out.below hb)
      clear a0 a1 a2 a3 hb HB1 HR1 HT1
      cases c with
      | false =>
        go_wp2_with fail
        refine (awake _).mono ?_
        rintro e w3 ⟨rfl, hb⟩
        have HB3 := Lib.hid (HB2.out.trans (hb.mono HB2.out.size))
        clear hb
        go_wp2
        go_ret
        exact ⟨rfl, HB3.out⟩
      | true =>
        go_wp2_with fail
        refine (HX.out (by simp) (by simp) _ HT2.out).mono ?_
        rintro e w3 ⟨rfl, hb⟩
        have HB3 := Lib.hid (HB2.out.trans (hb.mono HB2.out.size))
        have HR3 := Lib.hid (HR2.out.below hb)
        have HT3 := Lib.hid (HT2.out.below hb)
        clear hb HB2 HR2 HT2
        cases d with
        | false =>
          go_wp2_with fail
          refine (awake _).mono ?_
          rintro e w4 ⟨rfl, hb⟩
          have HB4 := Lib.hid (HB3.out.trans (hb.mono HB3.out.size))
          clear hb
          go_wp2
          go_ret
          exact ⟨rfl, HB4.out⟩
        | true =>
          obtain ⟨t1, t2, M1, M2, M3⟩ := HM.out (by simp) (by simp) (by simp) (by simp)
          have N1 := Lib.hid M1
          have N2 := Lib.hid M2
          have N3 := Lib.hid M3
          clear M1 M2 M3
          have a0 : w3.cell? ⟨A, 0, none⟩ = some (.string s) := HR3.out 0 _ rfl
          have a1 : w3.cell? ⟨A, 1, none⟩ = some (.int .i64 r1) := HR3.out 1 _ rfl
          have a2 : w3.cell? ⟨A, 2, none⟩ = some (.int .i64 r2) := HR3.out 2 _ rfl
          have a3 : w3.cell? ⟨A, 3, none⟩ = some (.int .i64 rv) := HR3.out 3 _ rfl
          go_wp2_with fail
          refine (N1.out _ HT3.out).mono ?_
          rintro e w4 ⟨rfl, hb⟩
          have HB4 := Lib.hid (HB3.out.trans (hb.mono HB3.out.size))
          have HR4 := Lib.hid (HR3.out.below hb)
          have HT4 := Lib.hid (HT3.out.below hb)
          clear a0 a1 a2 a3 hb HB3 HR3 HT3
          go_wp2_with fail
          refine (awake _).mono ?_
          rintro e w5 ⟨rfl, hb⟩
          have HB5 := Lib.hid (HB4.out.trans (hb.mono HB4.out.size))
          have HR5 := Lib.hid (HR4.out.below hb)
          have HT5 := Lib.hid (HT4.out.below hb)
          clear hb HB4 HR4 HT4
          have a0 : w5.cell? ⟨A, 0, none⟩ = some (.string s) := HR5.out 0 _ rfl
          go_wp2_with fail
          refine (N2.out _ HT5.out).mono ?_
          rintro e w6 ⟨rfl, rfl⟩
          go_wp2_with fail
          refine (N3.out _ HT5.out).mono ?_
          rintro e w6 ⟨rfl, rfl⟩
          go_wp2
          go_ret
          exact ⟨rfl, HB5.out⟩

theorem fits4_long (ad : Option Addr) (k tcap : Nat) (hk : 2147483647 < k) (w : World) : Calls Try.prog 18 #[.slice ad k tcap] w fun x w' => x = .returned (.bool false) ∧ w = w' := by
  have hkk : decide (2147483647 < k) = true := by rw [decide_eq_true_eq]; omega
  have hkk' : decide ((2147483647 : Int) < (k : Int)) = true := by rw [decide_eq_true_eq]; omega
  go_enter Try.func18, Try.ntmps18
  go_wp2
  go_ret
  exact ⟨rfl, rfl⟩
theorem texts_long (ad : Option Addr) (k tcap : Nat) (hk : 12 < k) (w : World) : Calls Try.prog 15 #[.slice ad k tcap] w fun x w' => x = .returned (.bool false) ∧ w = w' := by
  have hkk : decide (12 < k) = true := by rw [decide_eq_true_eq]; omega
  have hkk' : decide ((12 : Int) < (k : Int)) = true := by rw [decide_eq_true_eq]; omega
  go_enter Try.func15, Try.ntmps15
  go_wp2
  go_ret
  exact ⟨rfl, rfl⟩

theorem bool_of (P : Prop) : ∃ b : Bool, (b = true ↔ P) := by
  by_cases h : P
  · exact ⟨true, by simp [h]⟩
  · exact ⟨false, by simp [h]⟩
theorem bool_same {v b : Bool} {P : Prop} (h1 : v = true ↔ P) (h2 : b = true ↔ P) : v = b := by cases v <;> cases b <;> simp_all

theorem walk_first (s : ByteArray) (r1 r2 rv : Int) (_ : s.size ≤ maxLen) (ad : Option Addr) (tcap : Nat) (ss : List ByteArray) (w : World) (ht : StrsAt w ad ss) :
    Calls Try.prog 6 #[snowV s r1 r2 rv, .slice ad ss.length tcap] w fun e w' => e = .returned (.bool true) ∧ Below w.heap.size w w' := by
  obtain ⟨b, hb⟩ := bool_of (ss.length ≤ 2147483647 ∧ Fits ss)
  obtain ⟨d, hd⟩ := bool_of (ss.length ≤ 12 ∧ AllWhole ss)
  refine law_first s r1 r2 rv ad ss.length tcap ss (decide (s.size ≤ 2147483647)) b (decide (Right s r1 r2 rv)) d (fits6 s r1 r2 rv) ?_ ?_ ?_ ?_ w ht
  · intro w ht
    by_cases hk : ss.length ≤ 2147483647
    · refine (fits4 ad tcap ss hk w ht).mono ?_
      rintro x w' ⟨⟨v, rfl, hv⟩, h⟩
      have e : v = b := bool_same (P := ss.length ≤ 2147483647 ∧ Fits ss) (by rw [hv]; exact ⟨fun h => ⟨hk, h⟩, fun h => h.2⟩) hb
      rw [e]
      exact ⟨rfl, h⟩
    · have : b = false := by cases b; rfl; exact absurd (hb.1 rfl).1 hk
      rw [this]
      exact fits4_long ad _ tcap (by omega) w
  · intro ha w
    exact snow_right s r1 r2 rv (by simpa using ha) w
  · intro ha hbt w ht
    have hf := (hb.1 hbt).2
    by_cases hk : ss.length ≤ 12
    · refine (texts_right ad tcap ss hk hf w ht).mono ?_
      rintro x w' ⟨⟨v, rfl, hv⟩, h⟩
      have e : v = d := bool_same (P := ss.length ≤ 12 ∧ AllWhole ss) (by rw [hv]; exact ⟨fun h => ⟨hk, h⟩, fun h => h.2⟩) hd
      rw [e]
      exact ⟨rfl, h⟩
    · have : d = false := by cases d; rfl; exact absurd (hd.1 rfl).1 hk
      rw [this]
      refine (texts_long ad _ tcap (by omega) w).mono ?_
      rintro x w' ⟨rfl, rfl⟩
      exact ⟨rfl, Below.refl _ _⟩
  · intro ha hbt hc hdt
    have hs : s.size ≤ 2147483647 := by simpa using ha
    have hf := (hb.1 hbt).2
    have hk := (hb.1 hbt).1
    have hw := (of_decide_eq_true hc).1.1
    have hall := fun t h => ((hd.1 hdt).2 t h).1
    refine ⟨firstBegin (runesOf s) ss, firstEnd (runesOf s) ss, fun w ht => snow_first s (runesOf s) (runes_of s (by omega)) r1 r2 rv (runesOf_small s hs) ad tcap ss.length ss rfl hk hf _ _ rfl rfl w ht, fun w ht => ?_, fun w ht => ?_⟩
    · rw [← firstBy_begins s hw ss hall]; exact first_of_begins s hs ad tcap ss hk hf w ht
    · rw [← firstBy_ends s hw ss hall]; exact first_of_ends s hs ad tcap ss hk hf w ht
end Go.Proofs.Ytaohmmpfiehniaa
