/- The contracts of spec.FirstOf, laws.zzFits4 and spec.TextsRight. -/
import Derived.Test.YtaohmmpfiehniaaFirsts
import Derived.Test.YtaohmmpfiehniaaSpecEnds
set_option linter.unusedVariables false
set_option linter.unusedSimpArgs false
namespace Go.Proofs.Ytaohmmpfiehniaa
open Go.RowKit

def firstBy (f : ByteArray → Bool) : List ByteArray → ByteArray
  | [] => ⟨#[]⟩
  | t :: ts => if f t then t else firstBy f ts
theorem firstBy_drop {f : ByteArray → Bool} {ss : List ByteArray} {i : Nat} (h : i < ss.length) : firstBy f (ss.drop i) = if f (ss.getD i ByteArray.empty) then ss.getD i ByteArray.empty else firstBy f (ss.drop (i + 1)) := by
  rw [List.drop_eq_getElem_cons h]
  simp [firstBy, List.getD, h]
theorem firstBy_ends (s : ByteArray) (hs : (65533 : Int) ∉ runesOf s) : ∀ ss : List ByteArray, (∀ t ∈ ss, (65533 : Int) ∉ runesOf t) → firstBy (fun t => decide (t.data.toList <:+ s.data.toList)) ss = firstEnd (runesOf s) ss
  | [], _ => rfl
  | t :: ts, h => by
    have ht := h t (by simp)
    have e : decide (t.data.toList <:+ s.data.toList) = decide (runesOf t <:+ runesOf s) := by rw [decide_eq_decide]; exact text_ends hs ht
    simp only [firstBy, firstEnd, e, decide_eq_true_eq, firstBy_ends s hs ts (fun u hu => h u (by simp [hu]))]

set_option maxHeartbeats 2000000 in
theorem first_of_ends (s : ByteArray) (hs : s.size ≤ 2147483647) (ad : Option Addr) (tcap : Nat) (ss : List ByteArray) (hss : ss.length ≤ 2147483647) (hst : ∀ t ∈ ss, t.size ≤ 2147483647) (w : World) (ht : StrsAt w ad ss) :
    Calls Try.prog 21 #[.string s, .slice ad ss.length tcap, .bool false] w fun x w' => x = .returned (.string (firstBy (fun t => decide (t.data.toList <:+ s.data.toList)) ss)) ∧ w = w' := by
  have HF := Lib.hid (fun (i : Nat) (hi : i < ss.length) => firstBy_drop (f := fun t => decide (t.data.toList <:+ s.data.toList)) hi)
  obtain ⟨k, hk0⟩ : ∃ k, ss.length = k := ⟨_, rfl⟩
  rw [hk0]
  go_enter Try.func21, Try.ntmps21
  go_wp2_with fail
  go_loop [7] (fun v7 => ∃ i : Nat, v7 = .int .i64 i ∧ i ≤ k ∧ firstBy (fun t => decide (t.data.toList <:+ s.data.toList)) (ss.drop i) = firstBy (fun t => decide (t.data.toList <:+ s.data.toList)) ss) (fun v7 => k - (intOf v7).toNat)
  case atStart => exact ⟨0, rfl, by omega, by rw [List.drop_zero]⟩
  case round =>
    obtain ⟨i, rfl, hi, hf⟩ := hrel
    by_cases hik : i < k
    · have hid' : decide (i < k) = true := by simpa using hik
      have hstep := HF.out i (by omega)
      have hmem : ss.getD i ByteArray.empty ∈ ss := by
        simp only [List.getD, List.getElem?_eq_getElem (show i < ss.length by omega), Option.getD_some]; exact List.getElem_mem _
      have hts := hst _ hmem
      obtain ⟨tb, to, had, q⟩ := ht i (by omega)
      subst had
      have F := Lib.hid (spec_ends s (ss.getD i ByteArray.empty) hs hts w)
      have HFE := Lib.hid hf
      clear hf hmem
      generalize ss.getD i ByteArray.empty = t at *
      have hiwr : IntKind.i64.wrap ((i : Int) + 1) = ((i + 1 : Nat) : Int) := by push_cast; simp [IntKind.wrap, IntKind.min, IntKind.max, IntKind.signed, IntKind.bits]; omega
      go_wp2_with fail
      refine F.out.mono ?_
      rintro x w2 ⟨rfl, rfl⟩
      cases hd : decide (t.data.toList <:+ s.data.toList) with
      | true =>
        simp only [hd, if_true] at hstep
        go_wp2
        go_ret
        exact ⟨by rw [← HFE.out, hstep]; rfl, rfl⟩
      | false =>
        simp only [hd, Bool.false_eq_true, if_false] at hstep
        go_wp2
        go_round
        case rel => exact ⟨i + 1, by push_cast; rfl, by omega, by rw [← hstep]; exact HFE.out⟩
        case measure => simp [intOf]; omega
    · have hid' : decide (i < k) = false := by simpa using hik
      have hnil : firstBy (fun t => decide (t.data.toList <:+ s.data.toList)) ss = ⟨#[]⟩ := by rw [← hf, List.drop_of_length_le (by omega)]; rfl
      have HN := Lib.hid hnil
      clear hf hnil
      go_wp2
      go_ret
      exact ⟨by rw [HN.out]; rfl, rfl⟩
/-- The first one of some texts with which some code points begin, or none. -/
def firstBegin (ps : List Int) : List ByteArray → ByteArray
  | [] => ⟨#[]⟩
  | t :: ts => if runesOf t <+: ps then t else firstBegin ps ts
theorem firstBegin_drop {ps : List Int} {ss : List ByteArray} {i : Nat} (h : i < ss.length) : firstBegin ps (ss.drop i) = if runesOf (ss.getD i ByteArray.empty) <+: ps then ss.getD i ByteArray.empty else firstBegin ps (ss.drop (i + 1)) := by
  rw [List.drop_eq_getElem_cons h]
  simp [firstBegin, List.getD, h]
theorem firstBy_begins (s : ByteArray) (hs : (65533 : Int) ∉ runesOf s) : ∀ ss : List ByteArray, (∀ t ∈ ss, (65533 : Int) ∉ runesOf t) → firstBy (fun t => decide (t.data.toList <+: s.data.toList)) ss = firstBegin (runesOf s) ss
  | [], _ => rfl
  | t :: ts, h => by
    have ht := h t (by simp)
    have e : decide (t.data.toList <+: s.data.toList) = decide (runesOf t <+: runesOf s) := by rw [decide_eq_decide]; exact text_begins hs ht
    simp only [firstBy, firstBegin, e, decide_eq_true_eq, firstBy_begins s hs ts (fun u hu => h u (by simp [hu]))]

set_option maxHeartbeats 2000000 in
theorem first_of_begins (s : ByteArray) (hs : s.size ≤ 2147483647) (ad : Option Addr) (tcap : Nat) (ss : List ByteArray) (hss : ss.length ≤ 2147483647) (hst : ∀ t ∈ ss, t.size ≤ 2147483647) (w : World) (ht : StrsAt w ad ss) :
    Calls Try.prog 21 #[.string s, .slice ad ss.length tcap, .bool true] w fun x w' => x = .returned (.string (firstBy (fun t => decide (t.data.toList <+: s.data.toList)) ss)) ∧ w = w' := by
  have HF := Lib.hid (fun (i : Nat) (hi : i < ss.length) => firstBy_drop (f := fun t => decide (t.data.toList <+: s.data.toList)) hi)
  obtain ⟨k, hk0⟩ : ∃ k, ss.length = k := ⟨_, rfl⟩
  rw [hk0]
  go_enter Try.func21, Try.ntmps21
  go_wp2_with fail
  go_loop [7] (fun v7 => ∃ i : Nat, v7 = .int .i64 i ∧ i ≤ k ∧ firstBy (fun t => decide (t.data.toList <+: s.data.toList)) (ss.drop i) = firstBy (fun t => decide (t.data.toList <+: s.data.toList)) ss) (fun v7 => k - (intOf v7).toNat)
  case atStart => exact ⟨0, rfl, by omega, by rw [List.drop_zero]⟩
  case round =>
    obtain ⟨i, rfl, hi, hf⟩ := hrel
    by_cases hik : i < k
    · have hid' : decide (i < k) = true := by simpa using hik
      have hstep := HF.out i (by omega)
      have hmem : ss.getD i ByteArray.empty ∈ ss := by
        simp only [List.getD, List.getElem?_eq_getElem (show i < ss.length by omega), Option.getD_some]; exact List.getElem_mem _
      have hts := hst _ hmem
      obtain ⟨tb, to, had, q⟩ := ht i (by omega)
      subst had
      have F := Lib.hid (spec_begins s (ss.getD i ByteArray.empty) hs hts w)
      have HFE := Lib.hid hf
      clear hf hmem
      generalize ss.getD i ByteArray.empty = t at *
      have hiwr : IntKind.i64.wrap ((i : Int) + 1) = ((i + 1 : Nat) : Int) := by push_cast; simp [IntKind.wrap, IntKind.min, IntKind.max, IntKind.signed, IntKind.bits]; omega
      go_wp2_with fail
      refine F.out.mono ?_
      rintro x w2 ⟨rfl, rfl⟩
      cases hd : decide (t.data.toList <+: s.data.toList) with
      | true =>
        simp only [hd, if_true] at hstep
        go_wp2
        go_ret
        exact ⟨by rw [← HFE.out, hstep]; rfl, rfl⟩
      | false =>
        simp only [hd, Bool.false_eq_true, if_false] at hstep
        go_wp2
        go_round
        case rel => exact ⟨i + 1, by push_cast; rfl, by omega, by rw [← hstep]; exact HFE.out⟩
        case measure => simp [intOf]; omega
    · have hid' : decide (i < k) = false := by simpa using hik
      have hnil : firstBy (fun t => decide (t.data.toList <+: s.data.toList)) ss = ⟨#[]⟩ := by rw [← hf, List.drop_of_length_le (by omega)]; rfl
      have HN := Lib.hid hnil
      clear hf hnil
      go_wp2
      go_ret
      exact ⟨by rw [HN.out]; rfl, rfl⟩

/-- It tells whether P. -/
def Tells (x : Ending) (P : Prop) : Prop := ∃ v, x = .returned (.bool v) ∧ (v = true ↔ P)
theorem tells_mk {P : Prop} (v : Bool) (h : v = true ↔ P) : Tells (.returned (.bool v)) P := ⟨v, rfl, h⟩

/-- No text is too long for a machine of 32 bits. -/
def Fits (ss : List ByteArray) : Prop := ∀ t ∈ ss, t.size ≤ 2147483647
set_option maxHeartbeats 2000000 in
theorem fits4 (ad : Option Addr) (tcap : Nat) (ss : List ByteArray) (hss : ss.length ≤ 2147483647) (w : World) (ht : StrsAt w ad ss) :
    Calls Try.prog 18 #[.slice ad ss.length tcap] w fun x w' => Tells x (Fits ss) ∧ w = w' := by
  obtain ⟨k, hk0⟩ : ∃ k, ss.length = k := ⟨_, rfl⟩
  rw [hk0] at hss ⊢
  have hkk : decide (2147483647 < k) = false := by rw [decide_eq_false_iff_not]; omega
  go_enter Try.func18, Try.ntmps18
  go_wp2_with fail
  go_loop [10] (fun v10 => ∃ i : Nat, v10 = .int .i64 i ∧ i ≤ k ∧ (Fits (ss.drop i) → Fits ss)) (fun v10 => k - (intOf v10).toNat)
  case atStart => exact ⟨0, rfl, by omega, by rw [List.drop_zero]; exact id⟩
  case round =>
    obtain ⟨i, rfl, hi, hf⟩ := hrel
    have HFE := Lib.hid hf
    clear hf
    by_cases hik : i < k
    · have hid' : decide (i < k) = true := by simpa using hik
      have hmem : ss.getD i ByteArray.empty ∈ ss := by
        simp only [List.getD, List.getElem?_eq_getElem (show i < ss.length by omega), Option.getD_some]; exact List.getElem_mem _
      have hcons : ss.drop i = ss.getD i ByteArray.empty :: ss.drop (i + 1) := by
        rw [List.drop_eq_getElem_cons (by omega)]; simp [List.getD, List.getElem?_eq_getElem (show i < ss.length by omega)]
      have HC := Lib.hid hcons
      have HM := Lib.hid hmem
      obtain ⟨tb, to, had, q⟩ := ht i (by omega)
      subst had
      clear hmem hcons
      have hiwr : IntKind.i64.wrap ((i : Int) + 1) = ((i + 1 : Nat) : Int) := by push_cast; simp [IntKind.wrap, IntKind.min, IntKind.max, IntKind.signed, IntKind.bits]; omega
      generalize ss.getD i ByteArray.empty = t at *
      by_cases hts : t.size ≤ 2147483647
      · have hd : decide (2147483647 < t.size) = false := by rw [decide_eq_false_iff_not]; omega
        have hd' : decide ((2147483647 : Int) < (t.size : Int)) = false := by rw [decide_eq_false_iff_not]; omega
        go_wp2
        go_round
        case rel => exact ⟨i + 1, by push_cast; rfl, by omega, fun h => HFE.out (by rw [HC.out]; intro u hu; rcases List.mem_cons.1 hu with rfl | hu; exact hts; exact h u hu)⟩
        case measure => simp [intOf]; omega
      · have hd : decide (2147483647 < t.size) = true := by rw [decide_eq_true_eq]; omega
        have hd' : decide ((2147483647 : Int) < (t.size : Int)) = true := by rw [decide_eq_true_eq]; omega
        have hnf : ¬ Fits ss := fun h => hts (h t HM.out)
        have HNF := Lib.hid hnf
        clear hts hnf
        go_wp2
        go_ret
        exact ⟨tells_mk false (by simp [HNF.out]), rfl⟩
    · have hid' : decide (i < k) = false := by simpa using hik
      have hfits : Fits ss := HFE.out (by rw [List.drop_of_length_le (by omega)]; intro u hu; simp at hu)
      have HFI := Lib.hid hfits
      clear hfits
      go_wp2
      go_ret
      exact ⟨tells_mk true (by simp [HFI.out]), rfl⟩

def AllWhole (ss : List ByteArray) : Prop := ∀ t ∈ ss, IsWhole t 20
set_option maxHeartbeats 2000000 in
theorem texts_right (ad : Option Addr) (tcap : Nat) (ss : List ByteArray) (hss : ss.length ≤ 12) (hst : Fits ss) (w : World) (ht : StrsAt w ad ss) :
    Calls Try.prog 15 #[.slice ad ss.length tcap] w fun x w' => Tells x (AllWhole ss) ∧ Below w.heap.size w w' := by
  obtain ⟨k, hk0⟩ : ∃ k, ss.length = k := ⟨_, rfl⟩
  rw [hk0] at hss ⊢
  have hkk : decide (12 < k) = false := by rw [decide_eq_false_iff_not]; omega
  go_enter Try.func15, Try.ntmps15
  go_wp2_with fail
  go_loopw [3] (fun v3 wr => ∃ i : Nat, v3 = .int .i64 i ∧ i ≤ k ∧ Below w.heap.size w wr ∧ (AllWhole (ss.drop i) → AllWhole ss)) (fun v3 _ => k - (intOf v3).toNat)
  case atStart => exact ⟨0, rfl, by omega, Below.refl _ _, by rw [List.drop_zero]; exact id⟩
  case round =>
    obtain ⟨i, rfl, hi, hb, hf⟩ := hrel
    have HFE := Lib.hid hf
    have HB := Lib.hid hb
    have HT := Lib.hid (StrsAt.below (w := w) ht hb)
    clear hf hb
    by_cases hik : i < k
    · have hid' : decide (i < k) = true := by simpa using hik
      have hmem : ss.getD i ByteArray.empty ∈ ss := by
        simp only [List.getD, List.getElem?_eq_getElem (show i < ss.length by omega), Option.getD_some]; exact List.getElem_mem _
      have hcons : ss.drop i = ss.getD i ByteArray.empty :: ss.drop (i + 1) := by
        rw [List.drop_eq_getElem_cons (by omega)]; simp [List.getD, List.getElem?_eq_getElem (show i < ss.length by omega)]
      have F := Lib.hid (whole (ss.getD i ByteArray.empty) 20 (hst _ hmem) wr)
      have HC := Lib.hid hcons
      have HM := Lib.hid hmem
      obtain ⟨tb, to, had, q⟩ := HT.out i (by omega)
      subst had
      clear hmem hcons
      have hiwr : IntKind.i64.wrap ((i : Int) + 1) = ((i + 1 : Nat) : Int) := by push_cast; simp [IntKind.wrap, IntKind.min, IntKind.max, IntKind.signed, IntKind.bits]; omega
      generalize ss.getD i ByteArray.empty = t at *
      go_wp2_with fail
      refine F.out.mono ?_
      rintro x w2 ⟨rfl, hb2⟩
      have HB2 := Lib.hid (HB.out.trans (hb2.mono HB.out.size))
      clear hb2
      by_cases hts : IsWhole t 20
      · have hd : decide (IsWhole t 20) = true := by simpa using hts
        rw [hd]
        go_wp2
        go_roundw
        case rel => exact ⟨i + 1, by push_cast; rfl, by omega, HB2.out, fun h => HFE.out (by rw [HC.out]; intro u hu; rcases List.mem_cons.1 hu with rfl | hu; exact hts; exact h u hu)⟩
        case measure => simp [intOf]; omega
      · have hd : decide (IsWhole t 20) = false := by simpa using hts
        have hnf : ¬ AllWhole ss := fun h => hts (h t HM.out)
        rw [hd]
        go_wp2
        go_ret
        exact ⟨tells_mk false (by simp [hnf]), HB2.out⟩
    · have hid' : decide (i < k) = false := by simpa using hik
      have hfits : AllWhole ss := HFE.out (by rw [List.drop_of_length_le (by omega)]; intro u hu; simp at hu)
      go_wp2
      go_ret
      exact ⟨tells_mk true (by simp [hfits]), HB.out⟩
end Go.Proofs.Ytaohmmpfiehniaa
