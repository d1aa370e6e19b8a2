/- The walk of laws.FnSingle: true for every text. -/
import Derived.Test.YtigpnpdpokgmkaaGreatAlive
set_option linter.unusedVariables false
set_option linter.unusedSimpArgs false
namespace Go.Proofs.YtigpnpdpokgmkaaGreat
open Go Go.RowKit

set_option maxRecDepth 50000 in
set_option maxHeartbeats 4000000 in
theorem law_single (s t : ByteArray) (hs : s.size ≤ 2147483647) (ht : (s.size ≤ 300 ∧ t = s) ∨ (300 < s.size ∧ t = ⟨#[120]⟩)) (w : World) : Calls Tryz.prog 4 #[.string s] w fun x w' => x = .returned (.bool true) ∧ Below w.heap.size w w' := by
  have hd : decide (2147483647 < s.size) = false := by rw [decide_eq_false_iff_not]; omega
  have hd' : decide ((2147483647 : Int) < (s.size : Int)) = false := by rw [decide_eq_false_iff_not]; omega
  have rest : ∀ (w1 w2 : World) (d dcap : Nat), Below w.heap.size w w1 → CellsAt w1 d (fSingle t) → Below w.heap.size w (w1.alloc (.cells (dataRow t 0 t.size 1 0 false) 37)) ∧ Calls Tryz.prog 11 #[.slice (some ⟨d, 0, none⟩) 1 dcap, .slice (some ⟨w1.heap.size, 0, none⟩) 1 1] (w1.alloc (.cells (dataRow t 0 t.size 1 0 false) 37)) fun x w' => x = .returned (.bool true) ∧ Below (w1.alloc (.cells (dataRow t 0 t.size 1 0 false) 37)).heap.size (w1.alloc (.cells (dataRow t 0 t.size 1 0 false) 37)) w' := by
    intro w1 w2 d dcap hb hc
    have r2 := RowAt.new w1 (dataRow t 0 t.size 1 0 false) 37
    have r1 : RowAt (w1.alloc (.cells (dataRow t 0 t.size 1 0 false) 37)) d (dataRow t 0 t.size 1 0 false) := (show RowAt w1 d (dataRow t 0 t.size 1 0 false) from fun o u hu => hc o u hu).below ((Below.refl _ _).alloc (Nat.le_refl _) _)
    exact ⟨hb.alloc hb.size _, equal_tokens d w1.heap.size dcap 1 t 0 t.size 1 0 false _ r1 r2⟩
  have RS := Lib.hid rest
  clear rest
  unfold dataRow at RS
  rcases ht with ⟨h3, rfl⟩ | ⟨h3, rfl⟩
  · have hx : decide (300 < t.size) = false := by rw [decide_eq_false_iff_not]; omega
    have hx' : decide ((300 : Int) < (t.size : Int)) = false := by rw [decide_eq_false_iff_not]; omega
    clear h3 hs
    go_enter Tryz.func4, Tryz.ntmps4
    go_wp2_with fail
    refine (alive w).mono ?_
    rintro x w1 ⟨rfl, hb1⟩
    have HB1 := Lib.hid hb1
    clear hb1
    go_wp2_with fail
    refine (tokens_single t ⟨#[]⟩ w1).mono ?_
    rintro x w2 ⟨d, dcap, rfl, hc, hb2⟩
    obtain ⟨hb3, C⟩ := RS.out w2 w2 d dcap (HB1.out.trans (hb2.mono HB1.out.size)) hc
    have HB3 := Lib.hid hb3
    have CC := Lib.hid C
    clear hb2 hb3 C hc
    go_wp2_with fail
    refine CC.out.mono ?_
    rintro x w3 ⟨rfl, hb4⟩
    have HB4 := Lib.hid (HB3.out.trans (hb4.mono HB3.out.size))
    clear hb4
    go_wp2
    go_ret
    exact ⟨rfl, HB4.out⟩
  · have hx : decide (300 < s.size) = true := by rw [decide_eq_true_eq]; omega
    have hx' : decide ((300 : Int) < (s.size : Int)) = true := by rw [decide_eq_true_eq]; omega
    have h1 : ((⟨#[120]⟩ : ByteArray).size : Int) = 1 := rfl
    rw [h1] at RS
    clear h3 hs h1
    go_enter Tryz.func4, Tryz.ntmps4
    go_wp2_with fail
    refine (alive w).mono ?_
    rintro x w1 ⟨rfl, hb1⟩
    have HB1 := Lib.hid hb1
    clear hb1
    go_wp2_with fail
    refine (tokens_single ⟨#[120]⟩ ⟨#[]⟩ w1).mono ?_
    rintro x w2 ⟨d, dcap, rfl, hc, hb2⟩
    obtain ⟨hb3, C⟩ := RS.out w2 w2 d dcap (HB1.out.trans (hb2.mono HB1.out.size)) hc
    have HB3 := Lib.hid hb3
    have CC := Lib.hid C
    clear hb2 hb3 C hc
    go_wp2_with fail
    refine CC.out.mono ?_
    rintro x w3 ⟨rfl, hb4⟩
    have HB4 := Lib.hid (HB3.out.trans (hb4.mono HB3.out.size))
    clear hb4
    go_wp2
    go_ret
    exact ⟨rfl, HB4.out⟩

theorem walk_single (s : ByteArray) (_ : s.size ≤ maxLen) (w : World) : Calls Tryz.prog 4 #[.string s] w fun x w' => x = .returned (.bool true) ∧ Below w.heap.size w w' := by
  by_cases hs : s.size ≤ 2147483647
  · by_cases h3 : s.size ≤ 300
    · exact law_single s s hs (Or.inl ⟨h3, rfl⟩) w
    · exact law_single s ⟨#[120]⟩ hs (Or.inr ⟨by omega, rfl⟩) w
  · have hd : decide (2147483647 < s.size) = true := by rw [decide_eq_true_eq]; omega
    have hd' : decide ((2147483647 : Int) < (s.size : Int)) = true := by rw [decide_eq_true_eq]; omega
    clear hs
    go_enter Tryz.func4, Tryz.ntmps4
    go_wp2
    go_ret
    exact ⟨rfl, Below.refl _ _⟩
end Go.Proofs.YtigpnpdpokgmkaaGreat
