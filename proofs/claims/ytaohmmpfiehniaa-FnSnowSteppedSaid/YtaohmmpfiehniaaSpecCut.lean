/- The contracts of spec.WithoutLast and spec.Cut. -/
import Derived.Test.YtaohmmpfiehniaaCuts
import Derived.Test.YtaohmmpfiehniaaSpecIn
set_option linter.unusedVariables false
set_option linter.unusedSimpArgs false
namespace Go.Proofs.Ytaohmmpfiehniaa
open Go.RowKit

theorem spec_without (s : ByteArray) (rs : List Int) (hrs : runesOf s = rs) (m : Nat) (hs : s.size ≤ 2147483647) (hm : m ≤ rs.length) (w : World) :
    Calls Try.prog 39 #[.string s, .int .i64 m] w fun x w' => x = .returned (.string (runesBytes (rs.take (rs.length - m)))) ∧ Below w.heap.size w w' := by
  have hf := runes_fn s hs w
  have hn := runesOf_small s hs
  rw [hrs] at hf hn
  have hw4 : IntKind.i64.wrap ((rs.length : Int) - (m : Int)) = ((rs.length - m : Nat) : Int) := by rw [Int.ofNat_sub hm]; simp [IntKind.wrap, IntKind.min, IntKind.max, IntKind.signed, IntKind.bits]; omega
  go_enter Try.func39, Try.ntmps39
  go_wp2_with fail
  refine hf.mono ?_
  rintro x w1 ⟨⟨b, cap, rfl, hr, hc1, hc2⟩, hb⟩
  have HB := Lib.hid hb
  unfold maxLen at hc2
  have hqc : rs.length - m ≤ cap := by omega
  have hcv := conv_part b 0 (rs.length - m) cap rs w1 hr (Nat.zero_le _) (by omega)
  have hp : partOf rs 0 (rs.length - m) = rs.take (rs.length - m) := by simp [partOf]
  rw [hp, Nat.sub_zero] at hcv
  clear hr hb hf hrs
  generalize hq : rs.length - m = q at *
  generalize hn' : rs.length = n at *
  go_wp2
  go_ret
  subst hq hn'
  exact ⟨rfl, HB.out⟩

set_option maxHeartbeats 2000000 in
theorem spec_cut (s t : ByteArray) (r1 r2 rv : Int) (n : Nat) (hn : (runesOf t).length = n) (ht : t.size ≤ 2147483647) (w : World) :
    Calls Try.prog 38 #[snowV s r1 r2 rv, .string t] w fun x w' => x = .returned (snowV t (lim r1 n) (lim r2 n) (lim rv n)) ∧ Below w.heap.size w w' := by
  have hb0 := allocs_below [.cells #[.string s, .int .i64 r1, .int .i64 r2, .int .i64 rv] 27, .cells #[.string ⟨#[]⟩, .int .i64 0, .int .i64 0, .int .i64 0] 27] w w.heap.size (Nat.le_refl _)
  have F := Lib.hid (fun w => runes_fn t ht w)
  have hr0 : RowAt (allocs w [.cells #[.string s, .int .i64 r1, .int .i64 r2, .int .i64 rv] 27, .cells #[.string ⟨#[]⟩, .int .i64 0, .int .i64 0, .int .i64 0] 27]) w.heap.size #[.string s, .int .i64 r1, .int .i64 r2, .int .i64 rv] := allocs_row (i := 0) rfl rfl
  have hr1 : BoxAt (allocs w [.cells #[.string s, .int .i64 r1, .int .i64 r2, .int .i64 rv] 27, .cells #[.string ⟨#[]⟩, .int .i64 0, .int .i64 0, .int .i64 0] 27]) (w.heap.size + 1) #[.string ⟨#[]⟩, .int .i64 0, .int .i64 0, .int .i64 0] := allocs_at [.cells #[.string s, .int .i64 r1, .int .i64 r2, .int .i64 rv] 27, .cells #[.string ⟨#[]⟩, .int .i64 0, .int .i64 0, .int .i64 0] 27] w 1 (by show 1 < 2; omega)
  rw [hn] at F
  clear hn
  unfold snowV
  go_enter Try.func38, Try.ntmps38
  go_wp2_with fail
  change Calls _ _ _ (allocs w [.cells #[.string s, .int .i64 r1, .int .i64 r2, .int .i64 rv] 27, .cells #[.string ⟨#[]⟩, .int .i64 0, .int .i64 0, .int .i64 0] 27]) _
  generalize allocs w [.cells #[.string s, .int .i64 r1, .int .i64 r2, .int .i64 rv] 27, .cells #[.string ⟨#[]⟩, .int .i64 0, .int .i64 0, .int .i64 0] 27] = W0 at *
  refine (F.out W0).mono ?_
  rintro x w1 ⟨⟨b, cap, rfl, _, _, _⟩, hb⟩
  have HB := Lib.hid (hb0.trans (hb.mono hb0.size))
  have R := hr0.below hb
  have q1 : w1.cell? ⟨w.heap.size, 1, none⟩ = some (.int .i64 r1) := R 1 _ rfl
  have q2 : w1.cell? ⟨w.heap.size, 2, none⟩ = some (.int .i64 r2) := R 2 _ rfl
  have q3 : w1.cell? ⟨w.heap.size, 3, none⟩ = some (.int .i64 rv) := R 3 _ rfl
  have B1 := hr1.below hb
  obtain ⟨A, hA⟩ : ∃ A, w.heap.size + 1 = A := ⟨_, rfl⟩
  have hwA : w.heap.size ≤ A := by omega
  rw [hA] at B1 ⊢
  have k0 : w1.cell? ⟨A, 0, none⟩ = some (.string ⟨#[]⟩) := B1.row 0 _ rfl
  have k1 : w1.cell? ⟨A, 1, none⟩ = some (.int .i64 0) := B1.row 1 _ rfl
  have k2 : w1.cell? ⟨A, 2, none⟩ = some (.int .i64 0) := B1.row 2 _ rfl
  have k3 : w1.cell? ⟨A, 3, none⟩ = some (.int .i64 0) := B1.row 3 _ rfl
  have fz : ∀ i, w1.frozen? ⟨A, i, none⟩ = false := B1.free
  have HB1 := Lib.hid B1
  clear R B1 hb hb0 hr0 hr1
  have main : ∀ y1 y2 y3 : Int, lim r1 n = y1 → lim r2 n = y2 → lim rv n = y3 → BoxAt (set4 w1 A (.string t) (.int .i64 y1) (.int .i64 y2) (.int .i64 y3)) A #[.string t, .int .i64 y1, .int .i64 y2, .int .i64 y3] ∧ Below w.heap.size w (set4 w1 A (.string t) (.int .i64 y1) (.int .i64 y2) (.int .i64 y3)) := fun y1 y2 y3 _ _ _ => ⟨HB1.out.set4 _ _ _ _, set4_below HB.out hwA _ _ _ _⟩
  have MAIN := Lib.hid main
  clear main
  by_cases h1 : (n : Int) < r1 <;> by_cases h2 : (n : Int) < r2 <;> by_cases h3 : (n : Int) < rv
  all_goals
    have e1 := Lib.hid (show lim r1 n = _ from by unfold lim; first | rw [if_pos (by simpa using h1)] | rw [if_neg (by simpa using h1)])
    have e2 := Lib.hid (show lim r2 n = _ from by unfold lim; first | rw [if_pos (by simpa using h2)] | rw [if_neg (by simpa using h2)])
    have e3 := Lib.hid (show lim rv n = _ from by unfold lim; first | rw [if_pos (by simpa using h3)] | rw [if_neg (by simpa using h3)])
    go_wp2
    obtain ⟨M1, M2⟩ := MAIN.out _ _ _ e1.out e2.out e3.out
    have m0 := M1.row 0 _ rfl
    have m1 := M1.row 1 _ rfl
    have m2 := M1.row 2 _ rfl
    have m3 := M1.row 3 _ rfl
    unfold Go.Proofs.Ytaohmmpfiehniaa.set4 at m0 m1 m2 m3 M2
    refine bodyPost_ret (v := snowV t (lim r1 n) (lim r2 n) (lim rv n)) ?_ rfl ⟨rfl, M2⟩
    rw [e1.out, e2.out, e3.out]
    simp [results, Try.results38, go_sem, snowV, m0, m1, m2, m3]
end Go.Proofs.Ytaohmmpfiehniaa
