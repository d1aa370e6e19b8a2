/- The walk of laws.FnSnowStepped, for every word and every step. -/
import Derived.Test.YtaohmmpfiehniaaLawStep
set_option linter.unusedVariables false
set_option linter.unusedSimpArgs false
namespace Go.Proofs.Ytaohmmpfiehniaa
open Go Go.RowKit

theorem walk_step (s : ByteArray) (r1 r2 rv : Int) (_ : s.size ≤ maxLen) (kd N st : Int) (ad : Option Addr) (tcap : Nat) (u : ByteArray) (f : Bool) (ss : List ByteArray) (w : World) (ht : StrsAt w ad ss) :
    Calls Try.prog 4 #[snowV s r1 r2 rv, stepV' kd N st (.slice ad ss.length tcap) u f] w fun e w' => e = .returned (.bool true) ∧ Below w.heap.size w w' := by
  obtain ⟨b, hb⟩ := bool_of (ss.length ≤ 2147483647 ∧ Fits ss)
  obtain ⟨d, hd⟩ := bool_of (ss.length ≤ 12 ∧ AllWhole ss)
  have hbu : ∀ {P : Prop}, (b && decide (u.size ≤ 2147483647)) = true → (b = true → u.size ≤ 2147483647 → P) → P := fun h k => by
    rw [Bool.and_eq_true] at h
    exact k h.1 (of_decide_eq_true h.2)
  refine law_step s r1 r2 rv kd N st (runesOf s).length (runesOf (ss.getD 0 ByteArray.empty)).length ad ss.length tcap u f ss rfl (decide (s.size ≤ 2147483647)) (b && decide (u.size ≤ 2147483647)) (decide (Right s r1 r2 rv)) d (decide (IsWhole u 20)) (fits6 s r1 r2 rv) ?_ ?_ ?_ ?_ ?_ (ss.getD 0 ByteArray.empty) rfl ?_ ?_ w ht
  · intro w ht
    refine fits7 kd N st _ u f b w (fun w' hbw => ?_)
    by_cases hk : ss.length ≤ 2147483647
    · refine (fits4 ad tcap ss hk w' (ht.below hbw)).mono ?_
      rintro x w2 ⟨⟨v, rfl, hv⟩, h⟩
      have e : v = b := bool_same (P := ss.length ≤ 2147483647 ∧ Fits ss) (by rw [hv]; exact ⟨fun h => ⟨hk, h⟩, fun h => h.2⟩) hb
      rw [e]
      exact ⟨rfl, h⟩
    · have : b = false := by cases b; rfl; exact absurd (hb.1 rfl).1 hk
      rw [this]
      exact fits4_long ad _ tcap (by omega) w'
  · intro ha w
    exact len_fn s (by simpa using ha) _ rfl w
  · intro ha w
    exact snow_right s r1 r2 rv (by simpa using ha) w
  · intro hbt w ht
    have hf := (hb.1 (hbu hbt fun h _ => h)).2
    by_cases hk : ss.length ≤ 12
    · refine (texts_right ad tcap ss hk hf w ht).mono ?_
      rintro x w' ⟨⟨v, rfl, hv⟩, h⟩
      have e : v = d := bool_same (P := ss.length ≤ 12 ∧ AllWhole ss) (by rw [hv]; exact ⟨fun h => ⟨hk, h⟩, fun h => h.2⟩) hd
      rw [e]
      exact ⟨rfl, h⟩
    · have : d = false := by cases d; rfl; exact absurd (hd.1 rfl).1 hk
      rw [this]
      refine (texts_long ad _ tcap (by omega) w).mono ?_
      rintro x w' ⟨rfl, rfl⟩
      exact ⟨rfl, Below.refl _ _⟩
  · intro hbt w
    exact whole u 20 (hbu hbt fun _ h => h) w
  · intro hbt h0 w
    have hf := (hb.1 (hbu hbt fun h _ => h)).2
    have hm : ss.getD 0 ByteArray.empty ∈ ss := by
      simp only [List.getD, List.getElem?_eq_getElem h0, Option.getD_some]; exact List.getElem_mem _
    exact len_fn _ (hf _ hm) _ rfl w
  · intro ha hbt hc hdt he h0 g0 g1 g2 g3 g4 g5 hff
    obtain ⟨N, rfl⟩ := Int.eq_ofNat_of_zero_le g2
    obtain ⟨st, rfl⟩ := Int.eq_ofNat_of_zero_le g4
    have hs : s.size ≤ 2147483647 := by simpa using ha
    have hbb := hb.1 (hbu hbt fun h _ => h)
    have hR := of_decide_eq_true hc
    have hW := of_decide_eq_true he
    have hD := hd.1 hdt
    have G : Good s r1 r2 rv N st ss.length u ss :=
      { size := hs, whole := hR.1.1, len := by have := hR.1.2; omega, h1 := hR.2.1.2, h2 := hR.2.2.1.2, h3 := hR.2.2.2.2, hN := by omega, hst := by omega, usize := hbu hbt fun _ h => h, uwhole := hW.1, ulen := by have := hW.2; omega,
        hk := rfl, k0 := h0, k12 := hD.1, fits := hbb.2, all := fun t h => (hD.2 t h).1 }
    have hkd : kd = 0 ∨ kd = 1 ∨ kd = 2 ∨ kd = 3 ∨ kd = 4 ∨ kd = 5 := by omega
    rcases hkd with rfl | rfl | rfl | rfl | rfl | rfl
    · exact both_0 G ad tcap f
    · exact both_1 G ad tcap f hff
    · exact both_2 G ad tcap f hff
    · exact both_3 G ad tcap f
    · exact both_4 G ad tcap f
    · exact both_5 G ad tcap f
end Go.Proofs.Ytaohmmpfiehniaa
