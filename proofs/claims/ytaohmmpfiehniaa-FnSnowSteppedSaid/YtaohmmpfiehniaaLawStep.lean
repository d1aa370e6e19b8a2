/- The walk of laws.FnSnowStepped: true whatever the word and the step (printed by gen_law.py). -/
import Derived.Test.YtaohmmpfiehniaaStepBoth
import Derived.Test.YtaohmmpfiehniaaLawFirst
set_option linter.unusedVariables false
set_option linter.unusedSimpArgs false
namespace Go.Proofs.Ytaohmmpfiehniaa
open Go Go.RowKit

theorem undef_bool {b : Bool} (h : some undef = some (Value.bool b)) : False := by
  unfold undef at h
  injection h with h
  cases h

set_option maxHeartbeats 1000000 in
theorem fits7 (kd N st : Int) (sv : Value) (u : ByteArray) (f b : Bool) (w : World) (F4 : ∀ w', Below w.heap.size w w' → Calls Try.prog 18 #[sv] w' fun x w2 => x = .returned (.bool b) ∧ w' = w2) :
    Calls Try.prog 13 #[stepV' kd N st sv u f] w fun x w' => x = .returned (.bool (b && decide (u.size ≤ 2147483647))) ∧ Below w.heap.size w w' := by
  have hb : Below w.heap.size w (w.alloc (.cells #[.int .i64 kd, .int .i64 N, .int .i64 st, sv, .string u, .bool f] 32)) := (Below.refl _ _).alloc (Nat.le_refl _) _
  have F := Lib.hid F4
  have HB := Lib.hid hb
  clear F4 hb
  unfold stepV'
  cases b with
  | false =>
    go_enter Try.func13, Try.ntmps13
    go_wp2_with fail
    refine (F.out _ HB.out).mono ?_
    rintro x w1 ⟨rfl, rfl⟩
    go_wp2
    go_ret
    exact ⟨rfl, HB.out⟩
  | true =>
    have R := RowAt.new w #[.int .i64 kd, .int .i64 N, .int .i64 st, sv, .string u, .bool f] 32
    have c4 : (w.alloc (.cells #[.int .i64 kd, .int .i64 N, .int .i64 st, sv, .string u, .bool f] 32)).cell? ⟨w.heap.size, 4, none⟩ = some (.string u) := R 4 _ rfl
    by_cases hu : u.size ≤ 2147483647
    · have hd : decide (2147483647 < u.size) = false := by rw [decide_eq_false_iff_not]; omega
      have hd' : decide ((2147483647 : Int) < (u.size : Int)) = false := by rw [decide_eq_false_iff_not]; omega
      have he : decide (u.size ≤ 2147483647) = true := by simpa using hu
      rw [he]
      clear he hu R
      go_enter Try.func13, Try.ntmps13
      go_wp2_with fail
      refine (F.out _ HB.out).mono ?_
      rintro x w1 ⟨rfl, rfl⟩
      go_wp2
      go_ret
      exact ⟨rfl, HB.out⟩
    · have hd : decide (2147483647 < u.size) = true := by rw [decide_eq_true_eq]; omega
      have hd' : decide ((2147483647 : Int) < (u.size : Int)) = true := by rw [decide_eq_true_eq]; omega
      have he : decide (u.size ≤ 2147483647) = false := by simpa using hu
      rw [he]
      clear he hu R
      go_enter Try.func13, Try.ntmps13
      go_wp2_with fail
      refine (F.out _ HB.out).mono ?_
      rintro x w1 ⟨rfl, rfl⟩
      go_wp2
      go_ret
      exact ⟨rfl, HB.out⟩

set_option maxRecDepth 100000 in
set_option maxHeartbeats 16000000 in
theorem law_step (s : ByteArray) (r1 r2 rv : Int) (kd N st : Int) (n m : Nat) (ad : Option Addr) (k tcap : Nat) (u : ByteArray) (f : Bool) (ss : List ByteArray) (hkk : ss.length = k) (a b c d e : Bool)
    (F6 : ∀ w, Calls Try.prog 12 #[snowV s r1 r2 rv] w fun x w' => x = .returned (.bool a) ∧ Below w.heap.size w w')
    (F7 : ∀ w, StrsAt w ad ss → Calls Try.prog 13 #[stepV' kd N st (.slice ad k tcap) u f] w fun x w' => x = .returned (.bool b) ∧ Below w.heap.size w w')
    (RN : a = true → ∀ w, Calls Try.prog 10 #[.string s] w fun x w' => (∃ b cap, x = .returned (.slice (some ⟨b, 0, none⟩) n cap)) ∧ Below w.heap.size w w')
    (SR : a = true → ∀ w, Calls Try.prog 14 #[snowV s r1 r2 rv] w fun x w' => x = .returned (.bool c) ∧ Below w.heap.size w w')
    (TR : b = true → ∀ w, StrsAt w ad ss → Calls Try.prog 15 #[.slice ad k tcap] w fun x w' => x = .returned (.bool d) ∧ Below w.heap.size w w')
    (WU : b = true → ∀ w, Calls Try.prog 8 #[.string u, .int .i64 20] w fun x w' => x = .returned (.bool e) ∧ Below w.heap.size w w')
    (t : ByteArray) (ht0 : ss.getD 0 ByteArray.empty = t)
    (RT : b = true → 0 < k → ∀ w, Calls Try.prog 10 #[.string t] w fun x w' => (∃ b cap, x = .returned (.slice (some ⟨b, 0, none⟩) m cap)) ∧ Below w.heap.size w w')
    (MN : a = true → b = true → c = true → d = true → e = true → 0 < k → 0 ≤ kd → kd < 6 → 0 ≤ N → N ≤ n → 0 ≤ st → st ≤ n → (f = true → m ≤ n) → ∃ tq q1 q2 q3 txt told, (∀ w, StrsAt w ad ss → Calls Try.prog 16 #[snowV s r1 r2 rv, stepV' kd N st (.slice ad k tcap) u f] w fun e w' => e = .returned (.tuple #[snowV tq q1 q2 q3, .string txt, .bool told]) ∧ Below w.heap.size w w') ∧
      (∀ w, StrsAt w ad ss → Calls Try.prog 17 #[snowV s r1 r2 rv, stepV' kd N st (.slice ad k tcap) u f] w fun e w' => e = .returned (.tuple #[snowV tq q1 q2 q3, .string txt, .bool told]) ∧ Below w.heap.size w w'))
    (w : World) (ht : StrsAt w ad ss) : Calls Try.prog 4 #[snowV s r1 r2 rv, stepV' kd N st (.slice ad k tcap) u f] w fun x w' => x = .returned (.bool true) ∧ Below w.heap.size w w' := by
  have hb0 := allocs_below [.cells #[.string s, .int .i64 r1, .int .i64 r2, .int .i64 rv] 27, .cells #[.int .i64 kd, .int .i64 N, .int .i64 st, .slice ad k tcap, .string u, .bool f] 32] w w.heap.size (Nat.le_refl _)
  have hr0 : RowAt (allocs w [.cells #[.string s, .int .i64 r1, .int .i64 r2, .int .i64 rv] 27, .cells #[.int .i64 kd, .int .i64 N, .int .i64 st, .slice ad k tcap, .string u, .bool f] 32]) w.heap.size #[.string s, .int .i64 r1, .int .i64 r2, .int .i64 rv] := allocs_row (i := 0) rfl rfl
  have hx0 : RowAt (allocs w [.cells #[.string s, .int .i64 r1, .int .i64 r2, .int .i64 rv] 27, .cells #[.int .i64 kd, .int .i64 N, .int .i64 st, .slice ad k tcap, .string u, .bool f] 32]) (w.heap.size + 1) #[.int .i64 kd, .int .i64 N, .int .i64 st, .slice ad k tcap, .string u, .bool f] := allocs_row (i := 1) rfl rfl
  have HB := Lib.hid hb0
  have HR := Lib.hid hr0
  have HXR := Lib.hid hx0
  have HT := Lib.hid (ht.below hb0)
  have H6 := Lib.hid F6
  have H7 := Lib.hid F7
  have HN := Lib.hid RN
  have HS := Lib.hid SR
  have HX := Lib.hid TR
  have HW := Lib.hid WU
  have HRT := Lib.hid RT
  have HM := Lib.hid MN
  have HK := Lib.hid (And.intro hkk ht0)
  clear hb0 hr0 hx0 ht F6 F7 RN SR TR WU RT MN hkk ht0
  unfold snowV stepV' at H7 HM
  unfold snowV at H6 HS
  unfold snowV stepV'
  obtain ⟨sv, hsv⟩ : ∃ sv, Value.slice ad k tcap = sv := ⟨_, rfl⟩
  have HV := Lib.hid hsv
  rw [hsv] at H7 HX HM HXR HB HR HT ⊢
  clear hsv
  go_enter Try.func4, Try.ntmps4
  go_wp2_with fail
  change Calls _ _ _ (allocs w [.cells #[.string s, .int .i64 r1, .int .i64 r2, .int .i64 rv] 27, .cells #[.int .i64 kd, .int .i64 N, .int .i64 st, sv, .string u, .bool f] 32]) _
  generalize allocs w [.cells #[.string s, .int .i64 r1, .int .i64 r2, .int .i64 rv] 27, .cells #[.int .i64 kd, .int .i64 N, .int .i64 st, sv, .string u, .bool f] 32] = W0 at *
  obtain ⟨A, hA⟩ : ∃ q, w.heap.size = q := ⟨_, rfl⟩
  obtain ⟨A1, hA1⟩ : ∃ q, w.heap.size + 1 = q := ⟨_, rfl⟩
  rw [hA1] at HXR ⊢
  rw [hA] at HR ⊢
  clear hA1
  have CR := Lib.hid (fun (w' : World) (h : Below W0.heap.size W0 w') => (show w'.cell? ⟨A, 0, none⟩ = some (.string s) ∧ w'.cell? ⟨A, 1, none⟩ = some (.int .i64 r1) ∧ w'.cell? ⟨A, 2, none⟩ = some (.int .i64 r2) ∧ w'.cell? ⟨A, 3, none⟩ = some (.int .i64 rv) from ⟨belowRow h (HR.out 0 _ rfl), belowRow h (HR.out 1 _ rfl), belowRow h (HR.out 2 _ rfl), belowRow h (HR.out 3 _ rfl)⟩))
  have CX := Lib.hid (fun (w' : World) (h : Below W0.heap.size W0 w') => (show w'.cell? ⟨A1, 0, none⟩ = some (.int .i64 kd) ∧ w'.cell? ⟨A1, 1, none⟩ = some (.int .i64 N) ∧ w'.cell? ⟨A1, 2, none⟩ = some (.int .i64 st) ∧ w'.cell? ⟨A1, 3, none⟩ = some sv ∧ w'.cell? ⟨A1, 4, none⟩ = some (.string u) ∧ w'.cell? ⟨A1, 5, none⟩ = some (.bool f) from ⟨belowRow h (HXR.out 0 _ rfl), belowRow h (HXR.out 1 _ rfl), belowRow h (HXR.out 2 _ rfl), belowRow h (HXR.out 3 _ rfl), belowRow h (HXR.out 4 _ rfl), belowRow h (HXR.out 5 _ rfl)⟩))
  have FIN := Lib.hid (fun (w' : World) (h : Below W0.heap.size W0 w') => HB.out.trans (h.mono HB.out.size))
  have CT := Lib.hid (fun (w' : World) (h : Below W0.heap.size W0 w') => HT.out.below h)
  clear HR HXR HB HT
  refine (H6.out _).mono ?_
  rintro x w1 ⟨rfl, hb⟩
  have B1 := Lib.hid hb
  clear hb
  cases a with
  | false =>
    go_wp2
    go_ret
    exact ⟨rfl, FIN.out _ B1.out⟩
  | true =>
    have x0 : w1.cell? ⟨A1, 0, none⟩ = some (.int .i64 kd) := (CX.out _ B1.out).1
    have x1 : w1.cell? ⟨A1, 1, none⟩ = some (.int .i64 N) := (CX.out _ B1.out).2.1
    have x2 : w1.cell? ⟨A1, 2, none⟩ = some (.int .i64 st) := (CX.out _ B1.out).2.2.1
    have x3 : w1.cell? ⟨A1, 3, none⟩ = some sv := (CX.out _ B1.out).2.2.2.1
    have x4 : w1.cell? ⟨A1, 4, none⟩ = some (.string u) := (CX.out _ B1.out).2.2.2.2.1
    have x5 : w1.cell? ⟨A1, 5, none⟩ = some (.bool f) := (CX.out _ B1.out).2.2.2.2.2
    go_wp2_with fail
    refine (H7.out _ (CT.out _ B1.out)).mono ?_
    rintro x w2 ⟨rfl, hb⟩
    have B2 := Lib.hid (B1.out.trans (hb.mono B1.out.size))
    clear hb
    clear x0 x1 x2 x3 x4 x5
    cases b with
    | false =>
      go_wp2
      go_ret
      exact ⟨rfl, FIN.out _ B2.out⟩
    | true =>
      have a0 : w2.cell? ⟨A, 0, none⟩ = some (.string s) := (CR.out _ B2.out).1
      go_wp2_with fail
      refine (HN.out (by simp) _).mono ?_
      rintro x w3 ⟨⟨rb, rcap, rfl⟩, hb⟩
      have B3 := Lib.hid (B2.out.trans (hb.mono B2.out.size))
      clear hb a0
      have a0 : w3.cell? ⟨A, 0, none⟩ = some (.string s) := (CR.out _ B3.out).1
      have a1 : w3.cell? ⟨A, 1, none⟩ = some (.int .i64 r1) := (CR.out _ B3.out).2.1
      have a2 : w3.cell? ⟨A, 2, none⟩ = some (.int .i64 r2) := (CR.out _ B3.out).2.2.1
      have a3 : w3.cell? ⟨A, 3, none⟩ = some (.int .i64 rv) := (CR.out _ B3.out).2.2.2
      go_wp2_with fail
      refine (HS.out (by simp) _).mono ?_
      rintro x w4 ⟨rfl, hb⟩
      have B4 := Lib.hid (B3.out.trans (hb.mono B3.out.size))
      clear hb
      clear a0 a1 a2 a3
      cases c with
      | false =>
        go_wp2_with fail
        all_goals try exact (undef_bool (by assumption)).elim
        refine (awake _).mono ?_
        rintro x wz ⟨rfl, hbz⟩
        have BZ := Lib.hid (B4.out.trans (hbz.mono B4.out.size))
        clear hbz
        go_wp2
        go_ret
        exact ⟨rfl, FIN.out _ BZ.out⟩
      | true =>
        have x3 : w4.cell? ⟨A1, 3, none⟩ = some sv := (CX.out _ B4.out).2.2.2.1
        go_wp2_with fail
        refine (HX.out (by simp) _ (CT.out _ B4.out)).mono ?_
        rintro x w5 ⟨rfl, hb⟩
        have B5 := Lib.hid (B4.out.trans (hb.mono B4.out.size))
        clear hb
        clear x3
        cases d with
        | false =>
          go_wp2_with fail
          all_goals try exact (undef_bool (by assumption)).elim
          refine (awake _).mono ?_
          rintro x wz ⟨rfl, hbz⟩
          have BZ := Lib.hid (B5.out.trans (hbz.mono B5.out.size))
          clear hbz
          go_wp2
          go_ret
          exact ⟨rfl, FIN.out _ BZ.out⟩
        | true =>
          have hsv := HV.out
          subst hsv
          by_cases hk : k = 0
          · have hkd : (k == 0) = true := by simpa using hk
            have hkd' : ((k : Int) == 0) = true := by simp [hk]
            clear hk
            have x3 : w5.cell? ⟨A1, 3, none⟩ = some (.slice ad k tcap) := (CX.out _ B5.out).2.2.2.1
            go_wp2_with fail
            all_goals try exact (undef_bool (by assumption)).elim
            refine (awake _).mono ?_
            rintro x wz ⟨rfl, hbz⟩
            have BZ := Lib.hid (B5.out.trans (hbz.mono B5.out.size))
            clear hbz
            go_wp2
            go_ret
            exact ⟨rfl, FIN.out _ BZ.out⟩
          · have hkd : (k == 0) = false := by simpa using hk
            have hkd' : ((k : Int) == 0) = false := by simp [hk]
            have K0 := Lib.hid (show 0 < k by omega)
            clear hk
            have x3 : w5.cell? ⟨A1, 3, none⟩ = some (.slice ad k tcap) := (CX.out _ B5.out).2.2.2.1
            have x4 : w5.cell? ⟨A1, 4, none⟩ = some (.string u) := (CX.out _ B5.out).2.2.2.2.1
            go_wp2_with fail
            refine (HW.out (by simp) _).mono ?_
            rintro x w6 ⟨rfl, hb⟩
            have B6 := Lib.hid (B5.out.trans (hb.mono B5.out.size))
            clear hb
            clear x3 x4 hkd hkd'
            cases e with
            | false =>
              go_wp2_with fail
              all_goals try exact (undef_bool (by assumption)).elim
              refine (awake _).mono ?_
              rintro x wz ⟨rfl, hbz⟩
              have BZ := Lib.hid (B6.out.trans (hbz.mono B6.out.size))
              clear hbz
              go_wp2
              go_ret
              exact ⟨rfl, FIN.out _ BZ.out⟩
            | true =>
              by_cases g0 : kd < 0
              · have g0d : decide (kd < 0) = true := by simpa using g0
                have x0 : w6.cell? ⟨A1, 0, none⟩ = some (.int .i64 kd) := (CX.out _ B6.out).1
                go_wp2_with fail
                all_goals try exact (undef_bool (by assumption)).elim
                refine (awake _).mono ?_
                rintro x wz ⟨rfl, hbz⟩
                have BZ := Lib.hid (B6.out.trans (hbz.mono B6.out.size))
                clear hbz
                go_wp2
                go_ret
                exact ⟨rfl, FIN.out _ BZ.out⟩
              have g0d : decide (kd < 0) = false := by simpa using g0
              by_cases g1 : 6 ≤ kd
              · have g1d : decide (6 ≤ kd) = true := by simpa using g1
                have x0 : w6.cell? ⟨A1, 0, none⟩ = some (.int .i64 kd) := (CX.out _ B6.out).1
                go_wp2_with fail
                all_goals try exact (undef_bool (by assumption)).elim
                refine (awake _).mono ?_
                rintro x wz ⟨rfl, hbz⟩
                have BZ := Lib.hid (B6.out.trans (hbz.mono B6.out.size))
                clear hbz
                go_wp2
                go_ret
                exact ⟨rfl, FIN.out _ BZ.out⟩
              have g1d : decide (6 ≤ kd) = false := by simpa using g1
              by_cases g2 : N < 0
              · have g2d : decide (N < 0) = true := by simpa using g2
                have x0 : w6.cell? ⟨A1, 0, none⟩ = some (.int .i64 kd) := (CX.out _ B6.out).1
                have x1 : w6.cell? ⟨A1, 1, none⟩ = some (.int .i64 N) := (CX.out _ B6.out).2.1
                go_wp2_with fail
                all_goals try exact (undef_bool (by assumption)).elim
                refine (awake _).mono ?_
                rintro x wz ⟨rfl, hbz⟩
                have BZ := Lib.hid (B6.out.trans (hbz.mono B6.out.size))
                clear hbz
                go_wp2
                go_ret
                exact ⟨rfl, FIN.out _ BZ.out⟩
              have g2d : decide (N < 0) = false := by simpa using g2
              by_cases g3 : (n : Int) < N
              · have g3d : decide ((n : Int) < N) = true := by simpa using g3
                have x0 : w6.cell? ⟨A1, 0, none⟩ = some (.int .i64 kd) := (CX.out _ B6.out).1
                have x1 : w6.cell? ⟨A1, 1, none⟩ = some (.int .i64 N) := (CX.out _ B6.out).2.1
                go_wp2_with fail
                all_goals try exact (undef_bool (by assumption)).elim
                refine (awake _).mono ?_
                rintro x wz ⟨rfl, hbz⟩
                have BZ := Lib.hid (B6.out.trans (hbz.mono B6.out.size))
                clear hbz
                go_wp2
                go_ret
                exact ⟨rfl, FIN.out _ BZ.out⟩
              have g3d : decide ((n : Int) < N) = false := by simpa using g3
              by_cases g4 : st < 0
              · have g4d : decide (st < 0) = true := by simpa using g4
                have x0 : w6.cell? ⟨A1, 0, none⟩ = some (.int .i64 kd) := (CX.out _ B6.out).1
                have x1 : w6.cell? ⟨A1, 1, none⟩ = some (.int .i64 N) := (CX.out _ B6.out).2.1
                have x2 : w6.cell? ⟨A1, 2, none⟩ = some (.int .i64 st) := (CX.out _ B6.out).2.2.1
                go_wp2_with fail
                all_goals try exact (undef_bool (by assumption)).elim
                refine (awake _).mono ?_
                rintro x wz ⟨rfl, hbz⟩
                have BZ := Lib.hid (B6.out.trans (hbz.mono B6.out.size))
                clear hbz
                go_wp2
                go_ret
                exact ⟨rfl, FIN.out _ BZ.out⟩
              have g4d : decide (st < 0) = false := by simpa using g4
              by_cases g5 : (n : Int) < st
              · have g5d : decide ((n : Int) < st) = true := by simpa using g5
                have x0 : w6.cell? ⟨A1, 0, none⟩ = some (.int .i64 kd) := (CX.out _ B6.out).1
                have x1 : w6.cell? ⟨A1, 1, none⟩ = some (.int .i64 N) := (CX.out _ B6.out).2.1
                have x2 : w6.cell? ⟨A1, 2, none⟩ = some (.int .i64 st) := (CX.out _ B6.out).2.2.1
                go_wp2_with fail
                all_goals try exact (undef_bool (by assumption)).elim
                refine (awake _).mono ?_
                rintro x wz ⟨rfl, hbz⟩
                have BZ := Lib.hid (B6.out.trans (hbz.mono B6.out.size))
                clear hbz
                go_wp2
                go_ret
                exact ⟨rfl, FIN.out _ BZ.out⟩
              have g5d : decide ((n : Int) < st) = false := by simpa using g5
              have GG := Lib.hid (show 0 ≤ kd ∧ kd < 6 ∧ 0 ≤ N ∧ N ≤ (n : Int) ∧ 0 ≤ st ∧ st ≤ (n : Int) from ⟨by omega, by omega, by omega, by omega, by omega, by omega⟩)
              clear g0 g1 g2 g3 g4 g5
              obtain ⟨bt, ot, had, hq⟩ := (CT.out _ B6.out) 0 (by have := HK.out.1; have := K0.out; omega)
              rw [HK.out.2, Nat.add_zero] at hq
              subst had
              have k0 : 0 < k := K0.out
              have x0 : w6.cell? ⟨A1, 0, none⟩ = some (.int .i64 kd) := (CX.out _ B6.out).1
              have x1 : w6.cell? ⟨A1, 1, none⟩ = some (.int .i64 N) := (CX.out _ B6.out).2.1
              have x2 : w6.cell? ⟨A1, 2, none⟩ = some (.int .i64 st) := (CX.out _ B6.out).2.2.1
              have x3 : w6.cell? ⟨A1, 3, none⟩ = some (.slice (some ⟨bt, ot, none⟩) k tcap) := (CX.out _ B6.out).2.2.2.1
              go_wp2_with fail
              refine (HRT.out (by simp) k0 _).mono ?_
              rintro x w7 ⟨⟨rb2, rcap2, rfl⟩, hb⟩
              have B7 := Lib.hid (B6.out.trans (hb.mono B6.out.size))
              clear hb x0 x1 x2 x3 hq g0d g1d g2d g3d g4d g5d
              by_cases hmn : n < m
              · have hmd : decide (n < m) = true := by simpa using hmn
                have hmd' : decide ((n : Int) < (m : Int)) = true := by simpa using hmn
                cases f with
                | true =>
                  have x5 : w7.cell? ⟨A1, 5, none⟩ = some (.bool true) := (CX.out _ B7.out).2.2.2.2.2
                  go_wp2_with fail
                  all_goals try exact (undef_bool (by assumption)).elim
                  refine (awake _).mono ?_
                  rintro x wz ⟨rfl, hbz⟩
                  have BZ := Lib.hid (B7.out.trans (hbz.mono B7.out.size))
                  clear hbz
                  go_wp2
                  go_ret
                  exact ⟨rfl, FIN.out _ BZ.out⟩
                | false =>
                  have x5 : w7.cell? ⟨A1, 5, none⟩ = some (.bool false) := (CX.out _ B7.out).2.2.2.2.2
                  clear hmn
                  clear x5
                  obtain ⟨tq, q1, q2, q3, txt, told, M1, M2⟩ := HM.out (by simp) (by simp) (by simp) (by simp) (by simp) K0.out GG.out.1 GG.out.2.1 GG.out.2.2.1 GG.out.2.2.2.1 GG.out.2.2.2.2.1 GG.out.2.2.2.2.2 (fun h => by cases h)
                  have N1 := Lib.hid M1
                  have N2 := Lib.hid M2
                  clear M1 M2 HM HN HX HS H6 H7 HW HRT
                  unfold snowV at N1 N2
                  have a0 : w7.cell? ⟨A, 0, none⟩ = some (.string s) := (CR.out _ B7.out).1
                  have a1 : w7.cell? ⟨A, 1, none⟩ = some (.int .i64 r1) := (CR.out _ B7.out).2.1
                  have a2 : w7.cell? ⟨A, 2, none⟩ = some (.int .i64 r2) := (CR.out _ B7.out).2.2.1
                  have a3 : w7.cell? ⟨A, 3, none⟩ = some (.int .i64 rv) := (CR.out _ B7.out).2.2.2
                  have x0 : w7.cell? ⟨A1, 0, none⟩ = some (.int .i64 kd) := (CX.out _ B7.out).1
                  have x1 : w7.cell? ⟨A1, 1, none⟩ = some (.int .i64 N) := (CX.out _ B7.out).2.1
                  have x2 : w7.cell? ⟨A1, 2, none⟩ = some (.int .i64 st) := (CX.out _ B7.out).2.2.1
                  have x3 : w7.cell? ⟨A1, 3, none⟩ = some (.slice (some ⟨bt, ot, none⟩) k tcap) := (CX.out _ B7.out).2.2.2.1
                  have x4 : w7.cell? ⟨A1, 4, none⟩ = some (.string u) := (CX.out _ B7.out).2.2.2.2.1
                  have x5 : w7.cell? ⟨A1, 5, none⟩ = some (.bool false) := (CX.out _ B7.out).2.2.2.2.2
                  go_wp2_with fail
                  refine (N1.out _ (CT.out _ B7.out)).mono ?_
                  rintro x w8 ⟨rfl, hb⟩
                  have hb' := B7.out.trans (hb.mono B7.out.size)
                  clear hb a0 a1 a2 a3 x0 x1 x2 x3 x4 x5
                  have B8 := Lib.hid (hb'.alloc hb'.size (.cells #[.string tq, .int .i64 q1, .int .i64 q2, .int .i64 q3] 27))
                  clear hb'
                  have R8 := Lib.hid (RowAt.new w8 #[.string tq, .int .i64 q1, .int .i64 q2, .int .i64 q3] 27)
                  have a0 : (w8.alloc (.cells #[.string tq, .int .i64 q1, .int .i64 q2, .int .i64 q3] 27)).cell? ⟨A, 0, none⟩ = some (.string s) := (CR.out _ B8.out).1
                  have a1 : (w8.alloc (.cells #[.string tq, .int .i64 q1, .int .i64 q2, .int .i64 q3] 27)).cell? ⟨A, 1, none⟩ = some (.int .i64 r1) := (CR.out _ B8.out).2.1
                  have a2 : (w8.alloc (.cells #[.string tq, .int .i64 q1, .int .i64 q2, .int .i64 q3] 27)).cell? ⟨A, 2, none⟩ = some (.int .i64 r2) := (CR.out _ B8.out).2.2.1
                  have a3 : (w8.alloc (.cells #[.string tq, .int .i64 q1, .int .i64 q2, .int .i64 q3] 27)).cell? ⟨A, 3, none⟩ = some (.int .i64 rv) := (CR.out _ B8.out).2.2.2
                  have x0 : (w8.alloc (.cells #[.string tq, .int .i64 q1, .int .i64 q2, .int .i64 q3] 27)).cell? ⟨A1, 0, none⟩ = some (.int .i64 kd) := (CX.out _ B8.out).1
                  have x1 : (w8.alloc (.cells #[.string tq, .int .i64 q1, .int .i64 q2, .int .i64 q3] 27)).cell? ⟨A1, 1, none⟩ = some (.int .i64 N) := (CX.out _ B8.out).2.1
                  have x2 : (w8.alloc (.cells #[.string tq, .int .i64 q1, .int .i64 q2, .int .i64 q3] 27)).cell? ⟨A1, 2, none⟩ = some (.int .i64 st) := (CX.out _ B8.out).2.2.1
                  have x3 : (w8.alloc (.cells #[.string tq, .int .i64 q1, .int .i64 q2, .int .i64 q3] 27)).cell? ⟨A1, 3, none⟩ = some (.slice (some ⟨bt, ot, none⟩) k tcap) := (CX.out _ B8.out).2.2.2.1
                  have x4 : (w8.alloc (.cells #[.string tq, .int .i64 q1, .int .i64 q2, .int .i64 q3] 27)).cell? ⟨A1, 4, none⟩ = some (.string u) := (CX.out _ B8.out).2.2.2.2.1
                  have x5 : (w8.alloc (.cells #[.string tq, .int .i64 q1, .int .i64 q2, .int .i64 q3] 27)).cell? ⟨A1, 5, none⟩ = some (.bool false) := (CX.out _ B8.out).2.2.2.2.2
                  go_wp2_with fail
                  generalize w8.alloc (.cells #[.string tq, .int .i64 q1, .int .i64 q2, .int .i64 q3] 27) = W8 at *
                  obtain ⟨P, hP⟩ : ∃ q, w8.heap.size = q := ⟨_, rfl⟩
                  rw [hP] at R8 ⊢
                  clear hP
                  refine (N2.out _ (CT.out _ B8.out)).mono ?_
                  rintro x w9 ⟨rfl, hb⟩
                  have hb' := B8.out.trans (hb.mono B8.out.size)
                  have R9 := Lib.hid (R8.out.below hb)
                  clear hb R8 a0 a1 a2 a3 x0 x1 x2 x3 x4 x5
                  have B9 := Lib.hid (hb'.alloc hb'.size (.cells #[.string tq, .int .i64 q1, .int .i64 q2, .int .i64 q3] 27))
                  clear hb'
                  have S9 := Lib.hid (RowAt.new w9 #[.string tq, .int .i64 q1, .int .i64 q2, .int .i64 q3] 27)
                  have R9' := Lib.hid (R9.out.below ((Below.refl w9.heap.size w9).alloc (Nat.le_refl _) (.cells #[.string tq, .int .i64 q1, .int .i64 q2, .int .i64 q3] 27)))
                  clear R9
                  go_wp2_with fail
                  generalize w9.alloc (.cells #[.string tq, .int .i64 q1, .int .i64 q2, .int .i64 q3] 27) = W9 at *
                  obtain ⟨P2, hP2⟩ : ∃ q, w9.heap.size = q := ⟨_, rfl⟩
                  rw [hP2] at S9 ⊢
                  clear hP2
                  refine (awake _).mono ?_
                  rintro x wz ⟨rfl, hbz⟩
                  have BZ := Lib.hid (B9.out.trans (hbz.mono B9.out.size))
                  have T1 := R9'.out.below hbz
                  have T2 := S9.out.below hbz
                  have zT10 : wz.cell? ⟨P, 0, none⟩ = some (.string tq) := T1 0 _ rfl
                  have zT11 : wz.cell? ⟨P, 1, none⟩ = some (.int .i64 q1) := T1 1 _ rfl
                  have zT12 : wz.cell? ⟨P, 2, none⟩ = some (.int .i64 q2) := T1 2 _ rfl
                  have zT13 : wz.cell? ⟨P, 3, none⟩ = some (.int .i64 q3) := T1 3 _ rfl
                  have zT20 : wz.cell? ⟨P2, 0, none⟩ = some (.string tq) := T2 0 _ rfl
                  have zT21 : wz.cell? ⟨P2, 1, none⟩ = some (.int .i64 q1) := T2 1 _ rfl
                  have zT22 : wz.cell? ⟨P2, 2, none⟩ = some (.int .i64 q2) := T2 2 _ rfl
                  have zT23 : wz.cell? ⟨P2, 3, none⟩ = some (.int .i64 q3) := T2 3 _ rfl
                  have he := eq_snow tq q1 q2 q3
                  unfold snowV at he
                  clear hbz T1 T2 R9' S9
                  go_wp2
                  go_ret
                  exact ⟨rfl, FIN.out _ BZ.out⟩
              · have hmd : decide (n < m) = false := by simpa using hmn
                have hmd' : decide ((n : Int) < (m : Int)) = false := by simpa using hmn
                obtain ⟨tq, q1, q2, q3, txt, told, M1, M2⟩ := HM.out (by simp) (by simp) (by simp) (by simp) (by simp) K0.out GG.out.1 GG.out.2.1 GG.out.2.2.1 GG.out.2.2.2.1 GG.out.2.2.2.2.1 GG.out.2.2.2.2.2 (fun _ => by omega)
                have N1 := Lib.hid M1
                have N2 := Lib.hid M2
                clear M1 M2 HM HN HX HS H6 H7 HW HRT
                unfold snowV at N1 N2
                have a0 : w7.cell? ⟨A, 0, none⟩ = some (.string s) := (CR.out _ B7.out).1
                have a1 : w7.cell? ⟨A, 1, none⟩ = some (.int .i64 r1) := (CR.out _ B7.out).2.1
                have a2 : w7.cell? ⟨A, 2, none⟩ = some (.int .i64 r2) := (CR.out _ B7.out).2.2.1
                have a3 : w7.cell? ⟨A, 3, none⟩ = some (.int .i64 rv) := (CR.out _ B7.out).2.2.2
                have x0 : w7.cell? ⟨A1, 0, none⟩ = some (.int .i64 kd) := (CX.out _ B7.out).1
                have x1 : w7.cell? ⟨A1, 1, none⟩ = some (.int .i64 N) := (CX.out _ B7.out).2.1
                have x2 : w7.cell? ⟨A1, 2, none⟩ = some (.int .i64 st) := (CX.out _ B7.out).2.2.1
                have x3 : w7.cell? ⟨A1, 3, none⟩ = some (.slice (some ⟨bt, ot, none⟩) k tcap) := (CX.out _ B7.out).2.2.2.1
                have x4 : w7.cell? ⟨A1, 4, none⟩ = some (.string u) := (CX.out _ B7.out).2.2.2.2.1
                have x5 : w7.cell? ⟨A1, 5, none⟩ = some (.bool f) := (CX.out _ B7.out).2.2.2.2.2
                go_wp2_with fail
                refine (N1.out _ (CT.out _ B7.out)).mono ?_
                rintro x w8 ⟨rfl, hb⟩
                have hb' := B7.out.trans (hb.mono B7.out.size)
                clear hb a0 a1 a2 a3 x0 x1 x2 x3 x4 x5
                have B8 := Lib.hid (hb'.alloc hb'.size (.cells #[.string tq, .int .i64 q1, .int .i64 q2, .int .i64 q3] 27))
                clear hb'
                have R8 := Lib.hid (RowAt.new w8 #[.string tq, .int .i64 q1, .int .i64 q2, .int .i64 q3] 27)
                have a0 : (w8.alloc (.cells #[.string tq, .int .i64 q1, .int .i64 q2, .int .i64 q3] 27)).cell? ⟨A, 0, none⟩ = some (.string s) := (CR.out _ B8.out).1
                have a1 : (w8.alloc (.cells #[.string tq, .int .i64 q1, .int .i64 q2, .int .i64 q3] 27)).cell? ⟨A, 1, none⟩ = some (.int .i64 r1) := (CR.out _ B8.out).2.1
                have a2 : (w8.alloc (.cells #[.string tq, .int .i64 q1, .int .i64 q2, .int .i64 q3] 27)).cell? ⟨A, 2, none⟩ = some (.int .i64 r2) := (CR.out _ B8.out).2.2.1
                have a3 : (w8.alloc (.cells #[.string tq, .int .i64 q1, .int .i64 q2, .int .i64 q3] 27)).cell? ⟨A, 3, none⟩ = some (.int .i64 rv) := (CR.out _ B8.out).2.2.2
                have x0 : (w8.alloc (.cells #[.string tq, .int .i64 q1, .int .i64 q2, .int .i64 q3] 27)).cell? ⟨A1, 0, none⟩ = some (.int .i64 kd) := (CX.out _ B8.out).1
                have x1 : (w8.alloc (.cells #[.string tq, .int .i64 q1, .int .i64 q2, .int .i64 q3] 27)).cell? ⟨A1, 1, none⟩ = some (.int .i64 N) := (CX.out _ B8.out).2.1
                have x2 : (w8.alloc (.cells #[.string tq, .int .i64 q1, .int .i64 q2, .int .i64 q3] 27)).cell? ⟨A1, 2, none⟩ = some (.int .i64 st) := (CX.out _ B8.out).2.2.1
                have x3 : (w8.alloc (.cells #[.string tq, .int .i64 q1, .int .i64 q2, .int .i64 q3] 27)).cell? ⟨A1, 3, none⟩ = some (.slice (some ⟨bt, ot, none⟩) k tcap) := (CX.out _ B8.out).2.2.2.1
                have x4 : (w8.alloc (.cells #[.string tq, .int .i64 q1, .int .i64 q2, .int .i64 q3] 27)).cell? ⟨A1, 4, none⟩ = some (.string u) := (CX.out _ B8.out).2.2.2.2.1
                have x5 : (w8.alloc (.cells #[.string tq, .int .i64 q1, .int .i64 q2, .int .i64 q3] 27)).cell? ⟨A1, 5, none⟩ = some (.bool f) := (CX.out _ B8.out).2.2.2.2.2
                go_wp2_with fail
                generalize w8.alloc (.cells #[.string tq, .int .i64 q1, .int .i64 q2, .int .i64 q3] 27) = W8 at *
                obtain ⟨P, hP⟩ : ∃ q, w8.heap.size = q := ⟨_, rfl⟩
                rw [hP] at R8 ⊢
                clear hP
                refine (N2.out _ (CT.out _ B8.out)).mono ?_
                rintro x w9 ⟨rfl, hb⟩
                have hb' := B8.out.trans (hb.mono B8.out.size)
                have R9 := Lib.hid (R8.out.below hb)
                clear hb R8 a0 a1 a2 a3 x0 x1 x2 x3 x4 x5
                have B9 := Lib.hid (hb'.alloc hb'.size (.cells #[.string tq, .int .i64 q1, .int .i64 q2, .int .i64 q3] 27))
                clear hb'
                have S9 := Lib.hid (RowAt.new w9 #[.string tq, .int .i64 q1, .int .i64 q2, .int .i64 q3] 27)
                have R9' := Lib.hid (R9.out.below ((Below.refl w9.heap.size w9).alloc (Nat.le_refl _) (.cells #[.string tq, .int .i64 q1, .int .i64 q2, .int .i64 q3] 27)))
                clear R9
                go_wp2_with fail
                generalize w9.alloc (.cells #[.string tq, .int .i64 q1, .int .i64 q2, .int .i64 q3] 27) = W9 at *
                obtain ⟨P2, hP2⟩ : ∃ q, w9.heap.size = q := ⟨_, rfl⟩
                rw [hP2] at S9 ⊢
                clear hP2
                refine (awake _).mono ?_
                rintro x wz ⟨rfl, hbz⟩
                have BZ := Lib.hid (B9.out.trans (hbz.mono B9.out.size))
                have T1 := R9'.out.below hbz
                have T2 := S9.out.below hbz
                have zT10 : wz.cell? ⟨P, 0, none⟩ = some (.string tq) := T1 0 _ rfl
                have zT11 : wz.cell? ⟨P, 1, none⟩ = some (.int .i64 q1) := T1 1 _ rfl
                have zT12 : wz.cell? ⟨P, 2, none⟩ = some (.int .i64 q2) := T1 2 _ rfl
                have zT13 : wz.cell? ⟨P, 3, none⟩ = some (.int .i64 q3) := T1 3 _ rfl
                have zT20 : wz.cell? ⟨P2, 0, none⟩ = some (.string tq) := T2 0 _ rfl
                have zT21 : wz.cell? ⟨P2, 1, none⟩ = some (.int .i64 q1) := T2 1 _ rfl
                have zT22 : wz.cell? ⟨P2, 2, none⟩ = some (.int .i64 q2) := T2 2 _ rfl
                have zT23 : wz.cell? ⟨P2, 3, none⟩ = some (.int .i64 q3) := T2 3 _ rfl
                have he := eq_snow tq q1 q2 q3
                unfold snowV at he
                clear hbz T1 T2 R9' S9
                go_wp2
                go_ret
                exact ⟨rfl, FIN.out _ BZ.out⟩
end Go.Proofs.Ytaohmmpfiehniaa
