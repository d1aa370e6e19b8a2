/- The contract of ReplaceSuffix. -/
import Derived.Test.YtaohmmpfiehniaaReplace
set_option linter.unusedVariables false
set_option linter.unusedSimpArgs false
namespace Go.Proofs.Ytaohmmpfiehniaa
open Go Go.RowKit

/-- ReplaceSuffix: the suffix is taken away, another one comes. -/
theorem firstIf_one (rs : List Int) (t : ByteArray) : firstIf rs 0 rs.length [t] = if runesOf t <:+ rs then t else ⟨#[]⟩ := by
  simp [firstIf]

set_option maxHeartbeats 4000000 in
theorem suffix_yes (p B : Nat) (r1 r2 rv : Int) (rs : List Int) (t u : ByteArray) (f : Bool) (hyes : f = false → runesOf t <:+ rs) (hm : (runesOf t).length ≤ rs.length) (hn : rs.length ≤ 2147483647) (ht : t.size ≤ 2147483647) (hu : u.size ≤ 2147483647) (w : World)
    (h : WS w p B rs r1 r2 rv) :
    Calls Try.prog 33 #[.pointer (some ⟨p, 0, none⟩), .string t, .string u, .bool f] w fun x w' => x = .returned (.bool true) ∧
      WS w' p B (rs.take (rs.length - (runesOf t).length) ++ runesOf u) (lim r1 (rs.length - (runesOf t).length + (runesOf u).length : Nat)) (lim r2 (rs.length - (runesOf t).length + (runesOf u).length : Nat)) (lim rv (rs.length - (runesOf t).length + (runesOf u).length : Nat)) ∧ (B ≤ w.heap.size → Below B w w') := by
  have hrt := runes_of t (by omega)
  have hru := runes_of u (by omega)
  have hlt := runesOf_small t ht
  have hlu := runesOf_small u hu
  obtain ⟨ct, hct⟩ : ∃ c, runesOf t = c := ⟨_, rfl⟩
  obtain ⟨cu, hcu⟩ : ∃ c, runesOf u = c := ⟨_, rfl⟩
  rw [hct] at hrt hlt
  rw [hcu] at hru hlu
  have HH := Lib.hid h
  have HM := Lib.hid (And.intro hrt (And.intro hru (And.intro hlt (And.intro hlu (And.intro hm hyes)))))
  rw [hct] at HM ⊢
  rw [hcu]
  cases f with
  | true =>
    obtain ⟨cap1, W1, hcv1, hz1, hb1, hr1⟩ := conv_own t ct hrt w
    obtain ⟨cap2, W2, hcv2, hz2, hb2, hr2⟩ := conv_own u cu hru W1
    have hb12 := hb1.trans (hb2.mono hb1.size)
    have F := Lib.hid (replace_yes p B w.heap.size cap1 W1.heap.size cap2 r1 r2 rv rs ct cu true (fun h => by cases h) HM.out.2.2.2.2.1 hn hlt hlu W2 (h.below hb12) (hr1.below hb2).at hr2.at)
    have HB := Lib.hid hb12
    have FIN := Lib.hid (fun (w3 : World) (h3 : WS w3 p B (rs.take (rs.length - ct.length) ++ cu) (lim r1 (rs.length - ct.length + cu.length : Nat)) (lim r2 (rs.length - ct.length + cu.length : Nat)) (lim rv (rs.length - ct.length + cu.length : Nat))) (hB3 : B ≤ W2.heap.size → Below B W2 w3) => (show Ending.returned (.bool true) = .returned (.bool true) ∧ WS w3 p B (rs.take (rs.length - ct.length) ++ cu) (lim r1 (rs.length - ct.length + cu.length : Nat)) (lim r2 (rs.length - ct.length + cu.length : Nat)) (lim rv (rs.length - ct.length + cu.length : Nat)) ∧ (B ≤ w.heap.size → Below B w w3) from ⟨rfl, h3, fun hB => (HB.out.mono hB).trans (hB3 (Nat.le_trans hB HB.out.size))⟩))
    clear hr1 hr2 hb1 hb2 hb12 h hyes hm hrt hru hlt hlu hct hcu hz1 hz2
    generalize w.heap.size = c1 at *
    generalize W1.heap.size = c2 at *
    generalize hl : ct.length = l at *
    generalize hml : cu.length = m at *
    go_enter Try.func33, Try.ntmps33
    go_wp2_with fail
    refine F.out.mono ?_
    rintro x w3 ⟨rfl, h3, hB3⟩
    have H3 := Lib.hid h3
    have HB3 := Lib.hid hB3
    clear h3 hB3
    go_wp2
    go_ret
    subst hl hml
    exact ⟨rfl, (FIN.out w3 H3.out HB3.out).2⟩
  | false =>
    have hsuf := hyes rfl
    have hb0 : Below w.heap.size w (w.alloc (.cells #[.string t] 9)) := (Below.refl _ _).alloc (Nat.le_refl _) _
    have hst : StrsAt (w.alloc (.cells #[.string t] 9)) (some ⟨w.heap.size, 0, none⟩) [t] := fun i hi => by
      have : i = 0 := by simpa using hi
      subst this
      exact ⟨_, _, rfl, (One.new w (.string t) 9).cell⟩
    obtain ⟨b, cap, hw, hr, hpb, hBb⟩ := h.ex
    have F1 := first_suffix p b cap (some ⟨w.heap.size, 0, none⟩) 1 r1 r2 rv rs [t] hn (by simp) (by simpa using ht) (w.alloc (.cells #[.string t] 9)) (hw.below hb0) (hr.below hb0).at hst
    have e1 : firstEnd rs [t] = t := by simp only [firstEnd]; rw [if_pos hsuf]
    rw [e1] at F1
    have FF := Lib.hid F1
    have HB0 := Lib.hid hb0
    clear hb0 hst F1 e1 hw hr h hyes hm hrt hru hlt hlu hct hcu
    go_enter Try.func33, Try.ntmps33
    go_wp2_with fail
    generalize w.alloc (.cells #[.string t] 9) = W0 at *
    refine FF.out.mono ?_
    rintro x w1 ⟨rfl, hbx⟩
    have hb1 := HB0.out.trans (hbx.mono HB0.out.size)
    obtain ⟨cap1, W1, hcv1, hz1, hb2, hr1⟩ := conv_own t ct HM.out.1 w1
    obtain ⟨cap2, W2, hcv2, hz2, hb3, hr2⟩ := conv_own u cu HM.out.2.1 W1
    have hb23 := hb2.trans (hb3.mono hb2.size)
    have hb12 := hb1.trans (hb23.mono hb1.size)
    have F := Lib.hid (replace_yes p B w1.heap.size cap1 W1.heap.size cap2 r1 r2 rv rs ct cu true (fun h => by cases h) HM.out.2.2.2.2.1 hn HM.out.2.2.1 HM.out.2.2.2.1 W2 (HH.out.below hb12) (hr1.below hb3).at hr2.at)
    have HB := Lib.hid hb12
    have FIN := Lib.hid (fun (w3 : World) (h3 : WS w3 p B (rs.take (rs.length - ct.length) ++ cu) (lim r1 (rs.length - ct.length + cu.length : Nat)) (lim r2 (rs.length - ct.length + cu.length : Nat)) (lim rv (rs.length - ct.length + cu.length : Nat))) (hB3 : B ≤ W2.heap.size → Below B W2 w3) => (show Ending.returned (.bool true) = .returned (.bool true) ∧ WS w3 p B (rs.take (rs.length - ct.length) ++ cu) (lim r1 (rs.length - ct.length + cu.length : Nat)) (lim r2 (rs.length - ct.length + cu.length : Nat)) (lim rv (rs.length - ct.length + cu.length : Nat)) ∧ (B ≤ w.heap.size → Below B w w3) from ⟨rfl, h3, fun hB => (HB.out.mono hB).trans (hB3 (Nat.le_trans hB HB.out.size))⟩))
    clear hr1 hr2 hb1 hb2 hb3 hb23 hbx hb12 hz1 hz2 FF HB0
    generalize w1.heap.size = c1 at *
    generalize W1.heap.size = c2 at *
    generalize hl : ct.length = l at *
    generalize hml : cu.length = m at *
    go_wp2_with fail
    refine F.out.mono ?_
    rintro x w3 ⟨rfl, h3, hB3⟩
    have H3 := Lib.hid h3
    have HB3 := Lib.hid hB3
    clear h3 hB3
    go_wp2
    go_ret
    subst hl hml
    exact ⟨rfl, (FIN.out w3 H3.out HB3.out).2⟩

set_option maxHeartbeats 4000000 in
theorem suffix_no (p B : Nat) (r1 r2 rv : Int) (rs : List Int) (t u : ByteArray) (hno : ¬ runesOf t <:+ rs) (hn : rs.length ≤ 2147483647) (ht : t.size ≤ 2147483647) (w : World) (h : WS w p B rs r1 r2 rv) :
    Calls Try.prog 33 #[.pointer (some ⟨p, 0, none⟩), .string t, .string u, .bool false] w fun x w' => x = .returned (.bool false) ∧ Below w.heap.size w w' := by
  have hte : t ≠ ⟨#[]⟩ := by
    rintro rfl
    exact hno (List.nil_suffix)
  have hem := empty_no hte
  have hb0 : Below w.heap.size w (w.alloc (.cells #[.string t] 9)) := (Below.refl _ _).alloc (Nat.le_refl _) _
  have hst : StrsAt (w.alloc (.cells #[.string t] 9)) (some ⟨w.heap.size, 0, none⟩) [t] := fun i hi => by
    have : i = 0 := by simpa using hi
    subst this
    exact ⟨_, _, rfl, (One.new w (.string t) 9).cell⟩
  obtain ⟨b, cap, hw, hr, hpb, hBb⟩ := h.ex
  have F1 := first_suffix p b cap (some ⟨w.heap.size, 0, none⟩) 1 r1 r2 rv rs [t] hn (by simp) (by simpa using ht) (w.alloc (.cells #[.string t] 9)) (hw.below hb0) (hr.below hb0).at hst
  have e1 : firstEnd rs [t] = ⟨#[]⟩ := by simp only [firstEnd]; rw [if_neg hno]
  rw [e1] at F1
  have FF := Lib.hid F1
  have HB0 := Lib.hid hb0
  clear hb0 hst F1 e1 hw hr h hno hte
  go_enter Try.func33, Try.ntmps33
  go_wp2_with fail
  generalize w.alloc (.cells #[.string t] 9) = W0 at *
  refine FF.out.mono ?_
  rintro x w1 ⟨rfl, hbx⟩
  have hb1 := HB0.out.trans (hbx.mono HB0.out.size)
  obtain ⟨cap1, W1, hcv1, hz1, hb2, hr1⟩ := conv_own ⟨#[]⟩ [] ⟨by kernel_rfl, by decide⟩ w1
  have HB := Lib.hid (hb1.trans (hb2.mono hb1.size))
  clear hb1 hbx hb2 hr1 FF HB0 hz1
  generalize w1.heap.size = c1 at *
  go_wp2
  go_ret
  exact ⟨rfl, HB.out⟩
end Go.Proofs.Ytaohmmpfiehniaa
