/- The contracts of FirstSuffixIn, RemoveFirstSuffixIn, RemoveFirstSuffix and of impl.SnowStepped at the numbers that snowAlive asks; snowAlive. -/
import Derived.Test.YtaohmmpfiehniaaWord
set_option linter.unusedVariables false
set_option linter.unusedSimpArgs false
namespace Go.Proofs.Ytaohmmpfiehniaa
open Go.RowKit

abbrev sS : ByteArray := ⟨#[115]⟩
abbrev sTables : ByteArray := ⟨#[116, 97, 98, 108, 101, 115]⟩
abbrev sTabl : ByteArray := ⟨#[116, 97, 98, 108]⟩
theorem runes_es' : Runes sEs [101, 115] := ⟨by kernel_rfl, by decide⟩
theorem runes_tables : Runes sTables rsTables := ⟨by kernel_rfl, by decide⟩

set_option maxHeartbeats 1000000 in
theorem suffix_in (p b cap t tcap : Nat) (w : World) (h : WordAt w p (wordRow b 6 cap 6 6 6)) (hr : RunesAt w b rsTables) (ht : w.cell? ⟨t, 0, none⟩ = some (.string sEs)) :
    Calls Try.prog 41 #[.pointer (some ⟨p, 0, none⟩), .int .i64 0, .int .i64 6, .slice (some ⟨t, 0, none⟩) 2 tcap] w fun x w' => x = .returned (.string sEs) ∧ Below w.heap.size w w' := by
  obtain ⟨ccap, W, hcv, hz, hb, hc, hc1, hc2⟩ := conv_runes sEs [101, 115] runes_es' w
  have hw := h.below hb
  have hr1 := hr.below hb
  have F := Lib.hid (has_es p b cap w.heap.size ccap W hw hr1 hc)
  have HB := Lib.hid hb
  clear h hr hw hr1 hc hb
  have hlen : ([101, 115] : List Int).length = 2 := rfl
  rw [hlen] at hcv hc1
  go_enter Try.func41, Try.ntmps41
  go_wp2
  refine wp_loop_rounds 1 ?_
  simp only [rounds_succ]
  go_wp2_with fail
  refine F.out.mono ?_
  rintro x w' ⟨rfl, d, rfl⟩
  have HB2 := Lib.hid (below_drewN HB.out d)
  go_wp2
  go_ret
  exact ⟨rfl, HB2.out⟩

set_option maxHeartbeats 1000000 in
theorem remove_first_in (p b cap t tcap : Nat) (w : World) (h : WordAt w p (wordRow b 6 cap 6 6 6)) (hr : RunesAt w b rsTables) (ht : w.cell? ⟨t, 0, none⟩ = some (.string sEs)) (hpb : p ≠ b) (hcap : 6 ≤ cap) (hmax : cap ≤ maxLen) :
    Calls Try.prog 36 #[.pointer (some ⟨p, 0, none⟩), .int .i64 0, .slice (some ⟨t, 0, none⟩) 2 tcap] w fun x w' => x = .returned (.string sEs) ∧ WordAt w' p (wordRow b 4 cap 4 4 4) ∧ RunesAt w' b rsTables ∧ ∃ w2, Below w.heap.size w w2 ∧ (∀ B, B ≤ p → B ≤ w.heap.size → Below B w w') := by
  have c0 : w.cell? ⟨p, 0, none⟩ = some (.slice (some ⟨b, 0, none⟩) 6 cap) := h.row 0 _ rfl
  have hcnt := runes_es
  go_enter Try.func36, Try.ntmps36
  go_wp2_with fail
  refine (suffix_in p b cap t tcap w h hr ht).mono ?_
  rintro x w1 ⟨rfl, hb1⟩
  have h1 := h.below hb1
  have hr1 := hr.below hb1
  go_wp2_with fail
  refine (count_runes sEs (by decide) w1).mono ?_
  rintro x w2 ⟨rfl, hb2⟩
  have h2 := h1.below hb2
  have hr2 := hr1.below hb2
  rw [hcnt]
  have hb12 := hb1.trans (hb2.mono hb1.size)
  clear h1 hr1 hb1 hb2 c0
  have hne : ∀ w, (binOp .neq 9 (.string sEs) (.string ⟨#[]⟩)).run Try.prog w = .ok (.bool true) w := fun w => by kernel_rfl
  have F := Lib.hid (remove_two p b cap w2 h2 hcap hmax)
  have HB := Lib.hid hb12
  have HR := Lib.hid hr2
  clear h2 hr2 hb12 h hr
  go_wp2_with fail
  refine F.out.mono ?_
  rintro x w3 ⟨rfl, hw3, d, rfl⟩
  have HW := Lib.hid hw3
  clear hw3
  go_wp2
  go_ret
  refine ⟨rfl, HW.out, ?_, w2, HB.out, ?_⟩
  · exact fun i hi => cell_other (Ne.symm hpb) (cell_other (Ne.symm hpb) (cell_other (Ne.symm hpb) (cell_other (Ne.symm hpb) (HR.out i hi))))
  · intro B h1 h2
    exact ((((below_drewN (HB.out.mono h2) d).setCell (p := ⟨p, 0, none⟩) (by simpa using h1) _).setCell (p := ⟨p, 1, none⟩) (by simpa using h1) _).setCell (p := ⟨p, 2, none⟩) (by simpa using h1) _).setCell (p := ⟨p, 3, none⟩) (by simpa using h1) _

theorem remove_first (p b cap t tcap : Nat) (w : World) (h : WordAt w p (wordRow b 6 cap 6 6 6)) (hr : RunesAt w b rsTables) (ht : w.cell? ⟨t, 0, none⟩ = some (.string sEs)) (hpb : p ≠ b) (hcap : 6 ≤ cap) (hmax : cap ≤ maxLen) :
    Calls Try.prog 35 #[.pointer (some ⟨p, 0, none⟩), .slice (some ⟨t, 0, none⟩) 2 tcap] w fun x w' => x = .returned (.string sEs) ∧ WordAt w' p (wordRow b 4 cap 4 4 4) ∧ RunesAt w' b rsTables ∧ (∀ B, B ≤ p → B ≤ w.heap.size → Below B w w') := by
  have F := Lib.hid (remove_first_in p b cap t tcap w h hr ht hpb hcap hmax)
  clear h hr ht
  go_enter Try.func35, Try.ntmps35
  go_wp2_with fail
  refine F.out.mono ?_
  rintro x w' ⟨rfl, hw, hr, _, _, hb⟩
  have HW := Lib.hid hw
  have HR := Lib.hid hr
  have HB := Lib.hid hb
  clear hw hr hb
  go_wp2
  go_ret
  exact ⟨rfl, HW.out, HR.out, HB.out⟩
end Go.Proofs.Ytaohmmpfiehniaa
