/- The contracts of RemoveFirstSuffix, .In, .IfIn. -/
import Derived.Test.YtaohmmpfiehniaaCuts
import Derived.Test.YtaohmmpfiehniaaSpecIn
set_option linter.unusedVariables false
set_option linter.unusedSimpArgs false
namespace Go.Proofs.Ytaohmmpfiehniaa
open Go Go.RowKit

/-- A word, and the code points that are its own, above B. -/
structure WS (w : World) (p B : Nat) (rs : List Int) (r1 r2 rv : Int) : Prop where
  ex : ∃ b cap, WordAt w p (wordRow b rs.length cap r1 r2 rv) ∧ RunesOwn w b cap rs ∧ p ≠ b ∧ B ≤ b
  pos : B ≤ p
theorem WS.below {w w1 : World} {p B : Nat} {rs : List Int} {r1 r2 rv : Int} (h : WS w p B rs r1 r2 rv) (hb : Below w.heap.size w w1) : WS w1 p B rs r1 r2 rv := by
  obtain ⟨⟨b, cap, h1, h2, h3, h4⟩, h5⟩ := h
  exact ⟨⟨b, cap, h1.below hb, h2.below hb, h3, h4⟩, h5⟩
theorem WS.drewN {w : World} {p B : Nat} {rs : List Int} {r1 r2 rv : Int} (h : WS w p B rs r1 r2 rv) (n : Nat) : WS (w.drewN n) p B rs r1 r2 rv := by
  obtain ⟨⟨b, cap, h1, h2, h3, h4⟩, h5⟩ := h
  exact ⟨⟨b, cap, h1, h2.drewN n, h3, h4⟩, h5⟩

theorem bytes_list (t : ByteArray) : t.toList = t.data.toList := by
  have := ext_list t 0 t.size
  rw [List.drop_zero] at this
  have e : t.extract 0 t.size = t := by simp
  rw [e] at this
  rw [this, List.take_of_length_le (by rw [size_len]; omega)]
theorem empty_yes {t : ByteArray} (h : t = ⟨#[]⟩) : t.toList.isEmpty = true := by rw [bytes_list, h]; rfl
theorem empty_no {t : ByteArray} (h : t ≠ ⟨#[]⟩) : t.toList.isEmpty = false := by
  rw [bytes_list]
  cases hd : t.data.toList with
  | nil => exfalso; apply h; obtain ⟨d⟩ := t; simp at hd; rw [hd]
  | cons a l => rfl

set_option maxHeartbeats 2000000 in
theorem remove_in (p B : Nat) (ad : Option Addr) (tcap : Nat) (r1 r2 rv : Int) (rs : List Int) (ss : List ByteArray) (st : Nat) (hst : st ≤ rs.length) (h1 : r1 ≤ rs.length) (h2 : r2 ≤ rs.length) (h3 : rv ≤ rs.length) (hn : rs.length ≤ 2147483647) (hss : ss.length ≤ 2147483647) (hsz : ∀ t ∈ ss, t.size ≤ 2147483647)
    (t : ByteArray) (ht' : firstEnd (partOf rs st rs.length) ss = t) (w : World) (h : WS w p B rs r1 r2 rv) (ht : StrsAt w ad ss) :
    Calls Try.prog 36 #[.pointer (some ⟨p, 0, none⟩), .int .i64 st, .slice ad ss.length tcap] w fun x w' => x = .returned (.string t) ∧
      WS w' p B (rs.take (rs.length - (runesOf t).length)) (lim r1 (rs.length - (runesOf t).length : Nat)) (lim r2 (rs.length - (runesOf t).length : Nat)) (lim rv (rs.length - (runesOf t).length : Nat)) ∧ (B ≤ w.heap.size → Below B w w') := by
  obtain ⟨⟨b, cap, hw, hr, hpb, hBb⟩, hBp⟩ := h
  have F := first_in p b cap ad tcap r1 r2 rv rs ss st rs.length hst (Nat.le_refl _) hn hss hsz w hw hr.at ht
  have hlen := firstEnd_len (partOf rs st rs.length) ss
  have hmem := firstEnd_mem (partOf rs st rs.length) ss
  rw [ht'] at F hlen hmem
  rw [part_len rs st rs.length (Nat.le_refl _)] at hlen
  have hts : t.size ≤ 2147483647 := by
    rcases hmem with h | h
    · rw [h]; exact Nat.zero_le _
    · exact hsz _ h
  have C := Lib.hid (fun w => count_runes t hts w)
  have c0 : w.cell? ⟨p, 0, none⟩ = some (.slice (some ⟨b, 0, none⟩) rs.length cap) := hw.row 0 _ rfl
  have HX := Lib.hid (And.intro hw hr)
  obtain ⟨k, hk⟩ : ∃ k, ss.length = k := ⟨_, rfl⟩
  rw [hk] at F ⊢
  clear hmem ht ht' hsz hss hts hw hr hk
  by_cases hte : t = ⟨#[]⟩
  · have hm0 : (runesOf t).length = 0 := by rw [hte]; rfl
    have hne := empty_yes hte
    clear hte
    rw [hm0, Nat.sub_zero, List.take_length, lim_le h1, lim_le h2, lim_le h3]
    go_enter Try.func36, Try.ntmps36
    go_wp2_with fail
    refine F.mono ?_
    rintro x w1 ⟨rfl, hb1⟩
    have HB1 := Lib.hid hb1
    clear c0
    go_wp2_with fail
    refine (C.out w1).mono ?_
    rintro x w2 ⟨rfl, hb2⟩
    have HB2 := Lib.hid (HB1.out.trans (hb2.mono HB1.out.size))
    clear hb1 hb2 F
    go_wp2
    go_ret
    exact ⟨rfl, ⟨⟨b, cap, HX.out.1.below HB2.out, HX.out.2.below HB2.out, hpb, hBb⟩, hBp⟩, fun hB => HB2.out.mono hB⟩
  · have hne := empty_no hte
    have R := Lib.hid (fun w h => remove_n p b rs.length cap (runesOf t).length (by omega) HX.out.2.le HX.out.2.max r1 r2 rv w h)
    clear hte
    go_enter Try.func36, Try.ntmps36
    go_wp2_with fail
    refine F.mono ?_
    rintro x w1 ⟨rfl, hb1⟩
    have HB1 := Lib.hid hb1
    clear c0
    go_wp2_with fail
    refine (C.out w1).mono ?_
    rintro x w2 ⟨rfl, hb2⟩
    have HB2 := Lib.hid (HB1.out.trans (hb2.mono HB1.out.size))
    clear hb1 hb2 F
    go_wp2_with fail
    refine (R.out w2 (HX.out.1.below HB2.out)).mono ?_
    rintro x w3 ⟨rfl, h3, ht3⟩
    have HT := Lib.hid ht3
    have HW := Lib.hid h3
    clear h3 ht3
    go_wp2
    go_ret
    have e : (rs.take (rs.length - (runesOf t).length)).length = rs.length - (runesOf t).length := by rw [List.length_take]; omega
    refine ⟨rfl, ⟨⟨b, cap, by rw [e]; exact HW.out, ((HX.out.2.below HB2.out).touch HT.out (Ne.symm hpb)).take _, hpb, hBb⟩, hBp⟩, fun hB => (HB2.out.mono hB).trans (HT.out.below hBp (Nat.le_trans hB HB2.out.size))⟩
theorem firstIf_len (ps : List Int) (st e : Nat) (ss : List ByteArray) : (runesOf (firstIf ps st e ss)).length ≤ ps.length := by
  rw [firstIf_eq]; split
  · exact firstEnd_len ps ss
  · exact Nat.zero_le _
theorem firstIf_mem (ps : List Int) (st e : Nat) (ss : List ByteArray) : firstIf ps st e ss = ⟨#[]⟩ ∨ firstIf ps st e ss ∈ ss := by
  rw [firstIf_eq]; split
  · exact firstEnd_mem ps ss
  · exact Or.inl rfl

theorem remove_first_of (p B : Nat) (ad : Option Addr) (tcap : Nat) (r1 r2 rv : Int) (rs : List Int) (ss : List ByteArray) (h1 : r1 ≤ rs.length) (h2 : r2 ≤ rs.length) (h3 : rv ≤ rs.length) (hn : rs.length ≤ 2147483647) (hss : ss.length ≤ 2147483647) (hsz : ∀ t ∈ ss, t.size ≤ 2147483647)
    (t : ByteArray) (ht' : firstEnd rs ss = t) (w : World) (h : WS w p B rs r1 r2 rv) (ht : StrsAt w ad ss) :
    Calls Try.prog 35 #[.pointer (some ⟨p, 0, none⟩), .slice ad ss.length tcap] w fun x w' => x = .returned (.string t) ∧
      WS w' p B (rs.take (rs.length - (runesOf t).length)) (lim r1 (rs.length - (runesOf t).length : Nat)) (lim r2 (rs.length - (runesOf t).length : Nat)) (lim rv (rs.length - (runesOf t).length : Nat)) ∧ (B ≤ w.heap.size → Below B w w') := by
  have hp : partOf rs 0 rs.length = rs := by simp [partOf]
  have F := Lib.hid (remove_in p B ad tcap r1 r2 rv rs ss 0 (Nat.zero_le _) h1 h2 h3 hn hss hsz t (by rw [hp]; exact ht') w h ht)
  clear h ht
  go_enter Try.func35, Try.ntmps35
  go_wp2_with fail
  refine F.out.mono ?_
  rintro x w' ⟨rfl, hw, hb⟩
  have HW := Lib.hid hw
  have HB := Lib.hid hb
  clear hw hb
  go_wp2
  go_ret
  exact ⟨rfl, HW.out, HB.out⟩

set_option maxHeartbeats 2000000 in
theorem remove_if_in (p B : Nat) (ad : Option Addr) (tcap : Nat) (r1 r2 rv : Int) (rs : List Int) (ss : List ByteArray) (st : Nat) (hst : st ≤ rs.length) (h1 : r1 ≤ rs.length) (h2 : r2 ≤ rs.length) (h3 : rv ≤ rs.length) (hn : rs.length ≤ 2147483647) (hss : ss.length ≤ 2147483647) (hsz : ∀ t ∈ ss, t.size ≤ 2147483647)
    (t : ByteArray) (ht' : firstIf (partOf rs 0 rs.length) st rs.length ss = t) (w : World) (h : WS w p B rs r1 r2 rv) (ht : StrsAt w ad ss) :
    Calls Try.prog 37 #[.pointer (some ⟨p, 0, none⟩), .int .i64 st, .slice ad ss.length tcap] w fun x w' => x = .returned (.string t) ∧
      WS w' p B (rs.take (rs.length - (runesOf t).length)) (lim r1 (rs.length - (runesOf t).length : Nat)) (lim r2 (rs.length - (runesOf t).length : Nat)) (lim rv (rs.length - (runesOf t).length : Nat)) ∧ (B ≤ w.heap.size → Below B w w') := by
  obtain ⟨⟨b, cap, hw, hr, hpb, hBb⟩, hBp⟩ := h
  have F := first_if_in p b cap ad tcap r1 r2 rv rs ss st rs.length (Nat.le_refl _) hn hss hsz w hw hr.at ht
  have hlen := firstIf_len (partOf rs 0 rs.length) st rs.length ss
  have hmem := firstIf_mem (partOf rs 0 rs.length) st rs.length ss
  rw [ht'] at F hlen hmem
  rw [part_len rs 0 rs.length (Nat.le_refl _)] at hlen
  have hts : t.size ≤ 2147483647 := by
    rcases hmem with h | h
    · rw [h]; exact Nat.zero_le _
    · exact hsz _ h
  have C := Lib.hid (fun w => count_runes t hts w)
  have c0 : w.cell? ⟨p, 0, none⟩ = some (.slice (some ⟨b, 0, none⟩) rs.length cap) := hw.row 0 _ rfl
  have HX := Lib.hid (And.intro hw hr)
  obtain ⟨k, hk⟩ : ∃ k, ss.length = k := ⟨_, rfl⟩
  rw [hk] at F ⊢
  clear hmem ht ht' hsz hss hts hw hr hk
  by_cases hte : t = ⟨#[]⟩
  · have hm0 : (runesOf t).length = 0 := by rw [hte]; rfl
    have hne := empty_yes hte
    clear hte
    rw [hm0, Nat.sub_zero, List.take_length, lim_le h1, lim_le h2, lim_le h3]
    go_enter Try.func37, Try.ntmps37
    go_wp2_with fail
    refine F.mono ?_
    rintro x w1 ⟨rfl, hb1⟩
    have HB1 := Lib.hid hb1
    clear c0
    go_wp2_with fail
    refine (C.out w1).mono ?_
    rintro x w2 ⟨rfl, hb2⟩
    have HB2 := Lib.hid (HB1.out.trans (hb2.mono HB1.out.size))
    clear hb1 hb2 F
    go_wp2
    go_ret
    exact ⟨rfl, ⟨⟨b, cap, HX.out.1.below HB2.out, HX.out.2.below HB2.out, hpb, hBb⟩, hBp⟩, fun hB => HB2.out.mono hB⟩
  · have hne := empty_no hte
    have R := Lib.hid (fun w h => remove_n p b rs.length cap (runesOf t).length (by omega) HX.out.2.le HX.out.2.max r1 r2 rv w h)
    clear hte
    go_enter Try.func37, Try.ntmps37
    go_wp2_with fail
    refine F.mono ?_
    rintro x w1 ⟨rfl, hb1⟩
    have HB1 := Lib.hid hb1
    clear c0
    go_wp2_with fail
    refine (C.out w1).mono ?_
    rintro x w2 ⟨rfl, hb2⟩
    have HB2 := Lib.hid (HB1.out.trans (hb2.mono HB1.out.size))
    clear hb1 hb2 F
    go_wp2_with fail
    refine (R.out w2 (HX.out.1.below HB2.out)).mono ?_
    rintro x w3 ⟨rfl, h3, ht3⟩
    have HT := Lib.hid ht3
    have HW := Lib.hid h3
    clear h3 ht3
    go_wp2
    go_ret
    have e : (rs.take (rs.length - (runesOf t).length)).length = rs.length - (runesOf t).length := by rw [List.length_take]; omega
    refine ⟨rfl, ⟨⟨b, cap, by rw [e]; exact HW.out, ((HX.out.2.below HB2.out).touch HT.out (Ne.symm hpb)).take _, hpb, hBb⟩, hBp⟩, fun hB => (HB2.out.mono hB).trans (HT.out.below hBp (Nat.le_trans hB HB2.out.size))⟩
end Go.Proofs.Ytaohmmpfiehniaa
