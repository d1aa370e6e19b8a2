/- The walk of laws.FnSnowIn: true whatever the word, the places and the texts. -/
import Derived.Test.YtaohmmpfiehniaaIn
import Derived.Test.YtaohmmpfiehniaaLawFirst
set_option linter.unusedVariables false
set_option linter.unusedSimpArgs false
namespace Go.Proofs.Ytaohmmpfiehniaa
open Go.RowKit

set_option maxRecDepth 100000 in
set_option maxHeartbeats 8000000 in
theorem law_in (s : ByteArray) (r1 r2 rv : Int) (st e n : Nat) (hst : st < 256) (he : e < 256) (ad : Option Addr) (k tcap : Nat) (ss : List ByteArray) (hkk : ss.length = k) (a b c d : Bool)
    (F6 : ∀ w, Calls Try.prog 12 #[snowV s r1 r2 rv] w fun x w' => x = .returned (.bool a) ∧ Below w.heap.size w w')
    (F4 : ∀ w, StrsAt w ad ss → Calls Try.prog 18 #[.slice ad k tcap] w fun x w' => x = .returned (.bool b) ∧ w = w')
    (SR : a = true → ∀ w, Calls Try.prog 14 #[snowV s r1 r2 rv] w fun x w' => x = .returned (.bool c) ∧ Below w.heap.size w w')
    (TR : a = true → b = true → ∀ w, StrsAt w ad ss → Calls Try.prog 15 #[.slice ad k tcap] w fun x w' => x = .returned (.bool d) ∧ Below w.heap.size w w')
    (RN : a = true → ∀ w, Calls Try.prog 10 #[.string s] w fun x w' => (∃ b cap, x = .returned (.slice (some ⟨b, 0, none⟩) n cap)) ∧ Below w.heap.size w w')
    (t : ByteArray) (ht0 : ss.getD 0 ByteArray.empty = t)
    (MN : a = true → b = true → c = true → d = true → 0 < k → st ≤ e → e ≤ n → ∃ p t1 t2 d1 d2, (∀ w, StrsAt w ad ss → Calls Try.prog 19 #[snowV s r1 r2 rv, .int .i64 st, .int .i64 e, .slice ad k tcap] w fun e w' => e = .returned (.tuple #[.string t1, .string t2, .bool d1, .bool d2]) ∧ Below w.heap.size w w') ∧
      (∀ w, Calls Try.prog 20 #[.string s, .int .i64 st, .int .i64 e] w fun x w' => x = .returned (.string p) ∧ Below w.heap.size w w') ∧
      (∀ w, StrsAt w ad ss → Calls Try.prog 21 #[.string p, .slice ad k tcap, .bool false] w fun x w' => x = .returned (.string t1) ∧ w = w') ∧
      (∀ w, StrsAt w ad ss → Calls Try.prog 22 #[.string s, .int .i64 st, .int .i64 e, .slice ad k tcap] w fun x w' => x = .returned (.string t2) ∧ Below w.heap.size w w') ∧
      (∀ w, Calls Try.prog 23 #[.string s, .string t] w fun x w' => x = .returned (.bool d1) ∧ w = w') ∧
      (∀ w, Calls Try.prog 23 #[.string p, .string t] w fun x w' => x = .returned (.bool d2) ∧ w = w'))
    (w : World) (ht : StrsAt w ad ss) : Calls Try.prog 5 #[snowV s r1 r2 rv, .int .u8 st, .int .u8 e, .slice ad k tcap] w fun x w' => x = .returned (.bool true) ∧ Below w.heap.size w w' := by
  have hb0 : Below w.heap.size w (w.alloc (.cells #[.string s, .int .i64 r1, .int .i64 r2, .int .i64 rv] 27)) := (Below.refl _ _).alloc (Nat.le_refl _) _
  have hr0 := RowAt.new w #[.string s, .int .i64 r1, .int .i64 r2, .int .i64 rv] 27
  have HB := Lib.hid hb0
  have HR := Lib.hid hr0
  have HT := Lib.hid (ht.below hb0)
  have H6 := Lib.hid F6
  have H4 := Lib.hid F4
  have HS := Lib.hid SR
  have HX := Lib.hid TR
  have HN := Lib.hid RN
  have HM := Lib.hid MN
  have HK := Lib.hid (And.intro hkk ht0)
  have hw1 : IntKind.i64.wrap (st : Int) = st := by simp [IntKind.wrap, IntKind.min, IntKind.max, IntKind.signed, IntKind.bits]; omega
  have hw2 : IntKind.i64.wrap (e : Int) = e := by simp [IntKind.wrap, IntKind.min, IntKind.max, IntKind.signed, IntKind.bits]; omega
  clear hb0 hr0 ht F6 F4 SR TR MN RN hkk ht0 hst he
  unfold snowV at H6 HS HM ⊢
  obtain ⟨sv, hsv⟩ : ∃ sv, Value.slice ad k tcap = sv := ⟨_, rfl⟩
  have HV := Lib.hid hsv
  rw [hsv] at H4 HX HM ⊢
  clear hsv
  go_enter Try.func5, Try.ntmps5
  go_wp2_with fail
  generalize w.alloc (.cells #[.string s, .int .i64 r1, .int .i64 r2, .int .i64 rv] 27) = W0 at *
  obtain ⟨A, hA⟩ : ∃ q, w.heap.size = q := ⟨_, rfl⟩
  rw [hA] at HR ⊢
  refine (H6.out _).mono ?_
  rintro x w1 ⟨rfl, hb⟩
  have HB1 := Lib.hid (HB.out.trans (hb.mono HB.out.size))
  have HR1 := Lib.hid (HR.out.below hb)
  have HT1 := Lib.hid (HT.out.below hb)
  clear hb HB HR HT
  cases a with
  | false =>
    go_wp2
    go_ret
    exact ⟨rfl, HB1.out⟩
  | true =>
    go_wp2_with fail
    refine (H4.out _ HT1.out).mono ?_
    rintro x w2 ⟨rfl, rfl⟩
    cases b with
    | false =>
      go_wp2
      go_ret
      exact ⟨rfl, HB1.out⟩
    | true =>
      have a0 : w1.cell? ⟨A, 0, none⟩ = some (.string s) := HR1.out 0 _ rfl
      have a1 : w1.cell? ⟨A, 1, none⟩ = some (.int .i64 r1) := HR1.out 1 _ rfl
      have a2 : w1.cell? ⟨A, 2, none⟩ = some (.int .i64 r2) := HR1.out 2 _ rfl
      have a3 : w1.cell? ⟨A, 3, none⟩ = some (.int .i64 rv) := HR1.out 3 _ rfl
      go_wp2_with fail
      refine (HS.out (by simp) _).mono ?_
      rintro x w2 ⟨rfl, hb⟩
      have HB2 := Lib.hid (HB1.out.trans (hb.mono HB1.out.size))
      have HR2 := Lib.hid (HR1.out.below hb)
      have HT2 := Lib.hid (HT1.out.below hb)
      clear a0 a1 a2 a3 hb HB1 HR1 HT1
      cases c with
      | false =>
        go_wp2_with fail
        refine (awake _).mono ?_
        rintro x w3 ⟨rfl, hb⟩
        have HB3 := Lib.hid (HB2.out.trans (hb.mono HB2.out.size))
        clear hb
        go_wp2
        go_ret
        exact ⟨rfl, HB3.out⟩
      | true =>
        go_wp2_with fail
        refine (HX.out (by simp) (by simp) _ HT2.out).mono ?_
        rintro x w3 ⟨rfl, hb⟩
        have HB3 := Lib.hid (HB2.out.trans (hb.mono HB2.out.size))
        have HR3 := Lib.hid (HR2.out.below hb)
        have HT3 := Lib.hid (HT2.out.below hb)
        clear hb HB2 HR2 HT2
        cases d with
        | false =>
          go_wp2_with fail
          refine (awake _).mono ?_
          rintro x w4 ⟨rfl, hb⟩
          have HB4 := Lib.hid (HB3.out.trans (hb.mono HB3.out.size))
          clear hb
          go_wp2
          go_ret
          exact ⟨rfl, HB4.out⟩
        | true =>
          have hsv := HV.out
          subst hsv
          by_cases hk : k = 0
          · have hkd : (k == 0) = true := by simpa using hk
            have hkd' : ((k : Int) == 0) = true := by simp [hk]
            clear hk
            go_wp2_with fail
            refine (awake _).mono ?_
            rintro x w4 ⟨rfl, hb⟩
            have HB4 := Lib.hid (HB3.out.trans (hb.mono HB3.out.size))
            clear hb
            go_wp2
            go_ret
            exact ⟨rfl, HB4.out⟩
          · have hkd : (k == 0) = false := by simpa using hk
            have hkd' : ((k : Int) == 0) = false := by simp [hk]
            have K0 := Lib.hid (show 0 < k by omega)
            clear hk
            by_cases hse : e < st
            · have hsd : decide (e < st) = true := by simpa using hse
              have hsd' : decide ((e : Int) < (st : Int)) = true := by simpa using hse
              clear hse
              go_wp2_with fail
              refine (awake _).mono ?_
              rintro x w4 ⟨rfl, hb⟩
              have HB4 := Lib.hid (HB3.out.trans (hb.mono HB3.out.size))
              clear hb
              go_wp2
              go_ret
              exact ⟨rfl, HB4.out⟩
            · have hsd : decide (e < st) = false := by simpa using hse
              have hsd' : decide ((e : Int) < (st : Int)) = false := by simpa using hse
              have S0 := Lib.hid (show st ≤ e by omega)
              have a0 : w3.cell? ⟨A, 0, none⟩ = some (.string s) := HR3.out 0 _ rfl
              clear hse
              go_wp2_with fail
              refine (HN.out (by simp) _).mono ?_
              rintro x w4 ⟨⟨rb, rcap, rfl⟩, hb⟩
              have HB4 := Lib.hid (HB3.out.trans (hb.mono HB3.out.size))
              have HR4 := Lib.hid (HR3.out.below hb)
              have HT4 := Lib.hid (HT3.out.below hb)
              clear hb HB3 HR3 HT3 a0
              by_cases hen : n < e
              · have hnd : decide (n < e) = true := by simpa using hen
                have hnd' : decide ((n : Int) < (e : Int)) = true := by simpa using hen
                clear hen
                go_wp2_with fail
                refine (awake _).mono ?_
                rintro x w5 ⟨rfl, hb⟩
                have HB5 := Lib.hid (HB4.out.trans (hb.mono HB4.out.size))
                clear hb
                go_wp2
                go_ret
                exact ⟨rfl, HB5.out⟩
              · have hnd : decide (n < e) = false := by simpa using hen
                have hnd' : decide ((n : Int) < (e : Int)) = false := by simpa using hen
                obtain ⟨p, t1, t2, d1, d2, M1, M2, M3, M4, M5, M6⟩ := HM.out (by simp) (by simp) (by simp) (by simp) K0.out S0.out (by omega)
                have N1 := Lib.hid M1
                have N2 := Lib.hid M2
                have N3 := Lib.hid M3
                have N4 := Lib.hid M4
                have N5 := Lib.hid M5
                have N6 := Lib.hid M6
                have a0 : w4.cell? ⟨A, 0, none⟩ = some (.string s) := HR4.out 0 _ rfl
                have a1 : w4.cell? ⟨A, 1, none⟩ = some (.int .i64 r1) := HR4.out 1 _ rfl
                have a2 : w4.cell? ⟨A, 2, none⟩ = some (.int .i64 r2) := HR4.out 2 _ rfl
                have a3 : w4.cell? ⟨A, 3, none⟩ = some (.int .i64 rv) := HR4.out 3 _ rfl
                clear M1 M2 M3 M4 M5 M6 hen HM HN HX HS H4 H6
                go_wp2_with fail
                refine (N1.out _ HT4.out).mono ?_
                rintro x w5 ⟨rfl, hb⟩
                have HB5 := Lib.hid (HB4.out.trans (hb.mono HB4.out.size))
                have HR5 := Lib.hid (HR4.out.below hb)
                have HT5 := Lib.hid (HT4.out.below hb)
                clear hb HB4 HR4 HT4 a0 a1 a2 a3 hkd hkd' hsd hsd' hnd hnd'
                have a0 : w5.cell? ⟨A, 0, none⟩ = some (.string s) := HR5.out 0 _ rfl
                go_wp2_with fail
                refine (N2.out _).mono ?_
                rintro x w6 ⟨rfl, hb⟩
                have HB6 := Lib.hid (HB5.out.trans (hb.mono HB5.out.size))
                have HR6 := Lib.hid (HR5.out.below hb)
                have HT6 := Lib.hid (HT5.out.below hb)
                clear hb HB5 HR5 HT5 a0
                go_upto_region 7 with fail
                go_cut [8] (fun v8 wx => v8 = .bool true ∧ Below w.heap.size w wx)
                case first =>
                  obtain ⟨bt, ot, had, hq⟩ := HT6.out 0 (by have := HK.out.1; have := K0.out; omega)
                  rw [HK.out.2, Nat.add_zero] at hq
                  subst had
                  have T0 : StrsAt w6.drew (some ⟨bt, ot, none⟩) ss := HT6.out
                  have C0 : w6.drew.cell? ⟨A, 0, none⟩ = some (.string s) ∧ w6.drew.cell? ⟨bt, ot, none⟩ = some (.string t) := ⟨HR6.out 0 _ rfl, hq⟩
                  have HC := Lib.hid C0
                  have HT := Lib.hid T0
                  have HB7 := Lib.hid (below_drewN HB6.out 1)
                  have k0 : 0 < k := K0.out
                  clear hq T0 HT6 HR6 HB6 HV HK K0 S0 hA C0
                  go_region_held3 (fun w' => w'.cell? ⟨A, 0, none⟩ = some (.string s) ∧ w'.cell? ⟨bt, ot, none⟩ = some (.string t))
                    (first | exact C9 | exact C7 | exact HC.out)
                    (first
                      | (go_at_call 9; refine (awake _).mono ?_; rintro x w7 ⟨rfl, hb7⟩; have C7 := And.intro (belowRow hb7 HC.out.1) (belowRow hb7 HC.out.2); have T7 := HT.out.below hb7)
                      | (go_at_call 21; refine (N3.out _ (by exact T7)).mono ?_; rintro x w8 ⟨rfl, rfl⟩)
                      | (go_at_call 22; refine (N4.out _ (by exact T7)).mono ?_; rintro x w9 ⟨rfl, hb9⟩; have C9 := And.intro (belowRow hb9 C7.1) (belowRow hb9 C7.2))
                      | (go_at_call 23; with_reducible refine (N5.out _).mono ?_; rintro x w10 ⟨rfl, rfl⟩)
                      | (go_at_call 23; with_reducible refine (N6.out _).mono ?_; rintro x w11 ⟨rfl, rfl⟩))
                  all_goals go_wp2_with fail
                  all_goals go_meet
                  all_goals exact ⟨rfl, (HB7.out.trans (hb7.mono HB7.out.size)).trans (hb9.mono (HB7.out.trans (hb7.mono HB7.out.size)).size)⟩
                case rest =>
                  obtain ⟨rfl, hb⟩ := hcut
                  have HBX := Lib.hid hb
                  clear hb
                  go_wp2
                  go_ret
                  exact ⟨rfl, HBX.out⟩

theorem walk_in (s : ByteArray) (r1 r2 rv : Int) (_ : s.size ≤ maxLen) (x1 x2 : Int) (ad : Option Addr) (tcap : Nat) (ss : List ByteArray) (h1 : 0 ≤ x1) (h1' : x1 ≤ 255) (h2 : 0 ≤ x2) (h2' : x2 ≤ 255) (w : World) (ht : StrsAt w ad ss) :
    Calls Try.prog 5 #[snowV s r1 r2 rv, .int .u8 x1, .int .u8 x2, .slice ad ss.length tcap] w fun e w' => e = .returned (.bool true) ∧ Below w.heap.size w w' := by
  obtain ⟨st, rfl⟩ := Int.eq_ofNat_of_zero_le h1
  obtain ⟨e, rfl⟩ := Int.eq_ofNat_of_zero_le h2
  obtain ⟨b, hb⟩ := bool_of (ss.length ≤ 2147483647 ∧ Fits ss)
  obtain ⟨d, hd⟩ := bool_of (ss.length ≤ 12 ∧ AllWhole ss)
  refine law_in s r1 r2 rv st e (runesOf s).length (by omega) (by omega) ad ss.length tcap ss rfl (decide (s.size ≤ 2147483647)) b (decide (Right s r1 r2 rv)) d (fits6 s r1 r2 rv) ?_ ?_ ?_ ?_ (ss.getD 0 ByteArray.empty) rfl ?_ w ht
  · intro w ht
    by_cases hk : ss.length ≤ 2147483647
    · refine (fits4 ad tcap ss hk w ht).mono ?_
      rintro x w' ⟨⟨v, rfl, hv⟩, h⟩
      have e : v = b := bool_same (P := ss.length ≤ 2147483647 ∧ Fits ss) (by rw [hv]; exact ⟨fun h => ⟨hk, h⟩, fun h => h.2⟩) hb
      rw [e]
      exact ⟨rfl, h⟩
    · have : b = false := by cases b; rfl; exact absurd (hb.1 rfl).1 hk
      rw [this]
      exact fits4_long ad _ tcap (by omega) w
  · intro ha w
    exact snow_right s r1 r2 rv (by simpa using ha) w
  · intro ha hbt w ht
    have hf := (hb.1 hbt).2
    by_cases hk : ss.length ≤ 12
    · refine (texts_right ad tcap ss hk hf w ht).mono ?_
      rintro x w' ⟨⟨v, rfl, hv⟩, h⟩
      have e : v = d := bool_same (P := ss.length ≤ 12 ∧ AllWhole ss) (by rw [hv]; exact ⟨fun h => ⟨hk, h⟩, fun h => h.2⟩) hd
      rw [e]
      exact ⟨rfl, h⟩
    · have : d = false := by cases d; rfl; exact absurd (hd.1 rfl).1 hk
      rw [this]
      refine (texts_long ad _ tcap (by omega) w).mono ?_
      rintro x w' ⟨rfl, rfl⟩
      exact ⟨rfl, Below.refl _ _⟩
  · intro ha w
    refine (runes_fn s (by simpa using ha) w).mono ?_
    rintro x w' ⟨⟨b, cap, rfl, _⟩, h⟩
    exact ⟨⟨b, cap, rfl⟩, h⟩
  · intro ha hbt hc hdt h0 hse hen
    have hs : s.size ≤ 2147483647 := by simpa using ha
    have hf := (hb.1 hbt).2
    have hk := (hb.1 hbt).1
    have hR := of_decide_eq_true hc
    have hw := hR.1.1
    have h60 : (runesOf s).length ≤ 60 := by have := hR.1.2; omega
    have hall := fun t h => ((hd.1 hdt).2 t h).1
    have hm : ss.getD 0 ByteArray.empty ∈ ss := by
      simp only [List.getD, List.getElem?_eq_getElem h0, Option.getD_some]; exact List.getElem_mem _
    have hpl : (partOf (runesOf s) st e).length ≤ 200000000 := by rw [part_len _ _ _ hen]; omega
    have e1 : decide ((ss.getD 0 ByteArray.empty).data.toList <:+ s.data.toList) = decide (runesOf (ss.getD 0 ByteArray.empty) <:+ runesOf s) := by
      rw [decide_eq_decide]; exact text_ends hw (hall _ hm)
    have e2 : decide ((ss.getD 0 ByteArray.empty).data.toList <:+ (runesBytes (partOf (runesOf s) st e)).data.toList) = decide (runesOf (ss.getD 0 ByteArray.empty) <:+ partOf (runesOf s) st e) := by
      rw [decide_eq_decide, text_ends (part_whole hw st e) (hall _ hm), runes_back _ (part_valid st e)]
    exact ⟨runesBytes (partOf (runesOf s) st e), firstEnd (partOf (runesOf s) st e) ss, firstIf (partOf (runesOf s) 0 e) st e ss, decide (runesOf (ss.getD 0 ByteArray.empty) <:+ runesOf s), decide (runesOf (ss.getD 0 ByteArray.empty) <:+ partOf (runesOf s) st e),
      fun w ht => snow_in s (runesOf s) (runes_of s (by omega)) r1 r2 rv (runesOf_small s hs) st e hse hen ad tcap ss.length ss rfl hk hf h0 _ _ rfl rfl _ _ rfl rfl w ht,
      fun w => spec_between s (runesOf s) rfl st e hs hse hen w,
      fun w ht => first_of_part s hw st e hpl ad tcap ss hall hk hf w ht,
      fun w ht => spec_first_if s hs h60 hw st e hse hen ad tcap ss hall hk hf w ht,
      fun w => by rw [← e1]; exact spec_ends s _ hs (hf _ hm) w,
      fun w => by rw [← e2]; exact spec_ends _ _ (bytes_small _ hpl) (hf _ hm) w⟩
end Go.Proofs.Ytaohmmpfiehniaa
