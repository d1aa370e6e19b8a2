/- The contract of FirstSuffixIn, in general: over a slice of texts. -/
import Derived.Test.YtaohmmpfiehniaaHasIn
set_option linter.unusedVariables false
set_option linter.unusedSimpArgs false
namespace Go.Proofs.Ytaohmmpfiehniaa
open Go.RowKit

/-- A slice of texts that lies at a plain address. -/
def StrsAt (w : World) (ad : Option Addr) (ss : List ByteArray) : Prop := ∀ i, i < ss.length → ∃ b o, ad = some ⟨b, o, none⟩ ∧ w.cell? ⟨b, o + i, none⟩ = some (.string (ss.getD i ByteArray.empty))
theorem StrsAt.below {w w1 : World} {ad : Option Addr} {ss : List ByteArray} (h : StrsAt w ad ss) (hb : Below w.heap.size w w1) : StrsAt w1 ad ss := fun i hi => by
  obtain ⟨b, o, h1, h2⟩ := h i hi
  exact ⟨b, o, h1, belowRow hb h2⟩

/-- The first one of some texts with which some code points end, or none. -/
def firstEnd (ps : List Int) : List ByteArray → ByteArray
  | [] => ⟨#[]⟩
  | t :: ts => if runesOf t <:+ ps then t else firstEnd ps ts
theorem firstEnd_drop {ps : List Int} {ss : List ByteArray} {i : Nat} (h : i < ss.length) : firstEnd ps (ss.drop i) = if runesOf (ss.getD i ByteArray.empty) <:+ ps then ss.getD i ByteArray.empty else firstEnd ps (ss.drop (i + 1)) := by
  rw [List.drop_eq_getElem_cons h]
  simp [firstEnd, List.getD, h]

set_option maxHeartbeats 2000000 in
theorem first_in (p b cap : Nat) (ad : Option Addr) (tcap : Nat) (r1 r2 rv : Int) (rs : List Int) (ss : List ByteArray) (st e : Nat) (hse : st ≤ e) (hen : e ≤ rs.length) (hn : rs.length ≤ 2147483647) (hss : ss.length ≤ 2147483647) (hst : ∀ t ∈ ss, t.size ≤ 2147483647) (w : World)
    (h : WordAt w p (wordRow b rs.length cap r1 r2 rv)) (hr : RunesAt w b rs) (ht : StrsAt w ad ss) :
    Calls Try.prog 41 #[.pointer (some ⟨p, 0, none⟩), .int .i64 st, .int .i64 e, .slice ad ss.length tcap] w fun x w' => x = .returned (.string (firstEnd (partOf rs st e) ss)) ∧ Below w.heap.size w w' := by
  have HF := Lib.hid (fun (i : Nat) (hi : i < ss.length) => firstEnd_drop (ps := partOf rs st e) hi)
  obtain ⟨k, hk0⟩ : ∃ k, ss.length = k := ⟨_, rfl⟩
  rw [hk0]
  go_enter Try.func41, Try.ntmps41
  go_wp2_with fail
  go_loopw [14] (fun v14 wr => ∃ i : Nat, v14 = .int .i64 i ∧ i ≤ k ∧ Below w.heap.size w wr ∧ firstEnd (partOf rs st e) (ss.drop i) = firstEnd (partOf rs st e) ss) (fun v14 _ => k - (intOf v14).toNat)
  case atStart => exact ⟨0, rfl, by omega, Below.refl _ _, by rw [List.drop_zero]⟩
  case round =>
    obtain ⟨i, rfl, hi, hb, hf⟩ := hrel
    by_cases hik : i < k
    · have hid' : decide (i < k) = true := by simpa using hik
      have hstep := HF.out i (by omega)
      have hmem : ss.getD i ByteArray.empty ∈ ss := by
        simp only [List.getD, List.getElem?_eq_getElem (show i < ss.length by omega), Option.getD_some]; exact List.getElem_mem _
      have hts := hst _ hmem
      obtain ⟨tb, to, had, q⟩ := (ht.below (w := w) hb) i (by omega)
      subst had
      obtain ⟨ccap, W, hcv, hz, hbW, hc, hc1, hc2⟩ := conv_runes (ss.getD i ByteArray.empty) (runesOf (ss.getD i ByteArray.empty)) (runes_of _ (by omega)) wr
      have hbb := hb.trans (hbW.mono hb.size)
      have F := Lib.hid (has_in p b cap wr.heap.size ccap r1 r2 rv rs (runesOf (ss.getD i ByteArray.empty)) st e hse hen hn (runesOf_small _ hts) W (h.below hbb) (hr.below hbb) hc)
      have HBB := Lib.hid hbb
      have HFE := Lib.hid hf
      have hu : to + i = to + i := rfl
      clear hb hbW hc hf hts hmem
      generalize ss.getD i ByteArray.empty = t at *
      generalize hrt : runesOf t = ct at *
      have hiwr : IntKind.i64.wrap ((i : Int) + 1) = ((i + 1 : Nat) : Int) := by push_cast; simp [IntKind.wrap, IntKind.min, IntKind.max, IntKind.signed, IntKind.bits]; omega
      go_wp2_with fail
      refine F.out.mono ?_
      rintro x w2 ⟨rfl, d, rfl⟩
      have HB2 := Lib.hid (below_drewN HBB.out d)
      by_cases hsuf : ct <:+ partOf rs st e
      · have hd : decide (ct <:+ partOf rs st e) = true := by simpa using hsuf
        rw [if_pos hsuf] at hstep
        rw [hd]
        go_wp2
        go_ret
        exact ⟨by rw [← HFE.out, hstep]; rfl, HB2.out⟩
      · have hd : decide (ct <:+ partOf rs st e) = false := by simpa using hsuf
        rw [if_neg hsuf] at hstep
        rw [hd]
        go_wp2
        go_roundw
        case rel => exact ⟨i + 1, by push_cast; rfl, by omega, HB2.out, by rw [← hstep]; exact HFE.out⟩
        case measure => simp [intOf]; omega
    · have hid' : decide (i < k) = false := by simpa using hik
      have hnil : firstEnd (partOf rs st e) ss = ⟨#[]⟩ := by rw [← hf, List.drop_of_length_le (by omega)]; rfl
      have HN := Lib.hid hnil
      have HB := Lib.hid hb
      clear hb hf hnil
      go_wp2
      go_ret
      exact ⟨by rw [HN.out]; rfl, HB.out⟩
/-- .. if it begins from a place on. -/
def firstIf (ps : List Int) (st e : Nat) : List ByteArray → ByteArray
  | [] => ⟨#[]⟩
  | t :: ts => if runesOf t <:+ ps then (if st ≤ e - (runesOf t).length then t else ⟨#[]⟩) else firstIf ps st e ts
theorem firstIf_drop {ps : List Int} {st e : Nat} {ss : List ByteArray} {i : Nat} (h : i < ss.length) : firstIf ps st e (ss.drop i) = if runesOf (ss.getD i ByteArray.empty) <:+ ps then (if st ≤ e - (runesOf (ss.getD i ByteArray.empty)).length then ss.getD i ByteArray.empty else ⟨#[]⟩) else firstIf ps st e (ss.drop (i + 1)) := by
  rw [List.drop_eq_getElem_cons h]
  simp [firstIf, List.getD, h]
theorem firstIf_zero (ps : List Int) (e : Nat) : ∀ ss, firstIf ps 0 e ss = firstEnd ps ss
  | [] => rfl
  | t :: ts => by simp [firstIf, firstEnd, firstIf_zero ps e ts]

set_option maxHeartbeats 2000000 in
theorem first_if_in (p b cap : Nat) (ad : Option Addr) (tcap : Nat) (r1 r2 rv : Int) (rs : List Int) (ss : List ByteArray) (st e : Nat) (hen : e ≤ rs.length) (hn : rs.length ≤ 2147483647) (hss : ss.length ≤ 2147483647) (hst : ∀ t ∈ ss, t.size ≤ 2147483647) (w : World)
    (h : WordAt w p (wordRow b rs.length cap r1 r2 rv)) (hr : RunesAt w b rs) (ht : StrsAt w ad ss) :
    Calls Try.prog 42 #[.pointer (some ⟨p, 0, none⟩), .int .i64 st, .int .i64 e, .slice ad ss.length tcap] w fun x w' => x = .returned (.string (firstIf (partOf rs 0 e) st e ss)) ∧ Below w.heap.size w w' := by
  have HF := Lib.hid (fun (i : Nat) (hi : i < ss.length) => firstIf_drop (ps := partOf rs 0 e) (st := st) (e := e) hi)
  obtain ⟨k, hk0⟩ : ∃ k, ss.length = k := ⟨_, rfl⟩
  rw [hk0]
  go_enter Try.func42, Try.ntmps42
  go_wp2_with fail
  go_loopw [14] (fun v14 wr => ∃ i : Nat, v14 = .int .i64 i ∧ i ≤ k ∧ Below w.heap.size w wr ∧ firstIf (partOf rs 0 e) st e (ss.drop i) = firstIf (partOf rs 0 e) st e ss) (fun v14 _ => k - (intOf v14).toNat)
  case atStart => exact ⟨0, rfl, by omega, Below.refl _ _, by rw [List.drop_zero]⟩
  case round =>
    obtain ⟨i, rfl, hi, hb, hf⟩ := hrel
    by_cases hik : i < k
    · have hid' : decide (i < k) = true := by simpa using hik
      have hstep := HF.out i (by omega)
      have hmem : ss.getD i ByteArray.empty ∈ ss := by
        simp only [List.getD, List.getElem?_eq_getElem (show i < ss.length by omega), Option.getD_some]; exact List.getElem_mem _
      have hts := hst _ hmem
      obtain ⟨tb, to, had, q⟩ := (ht.below (w := w) hb) i (by omega)
      subst had
      obtain ⟨ccap, W, hcv, hz, hbW, hc, hc1, hc2⟩ := conv_runes (ss.getD i ByteArray.empty) (runesOf (ss.getD i ByteArray.empty)) (runes_of _ (by omega)) wr
      have hbb := hb.trans (hbW.mono hb.size)
      have F := Lib.hid (has_in p b cap wr.heap.size ccap r1 r2 rv rs (runesOf (ss.getD i ByteArray.empty)) 0 e (Nat.zero_le _) hen hn (runesOf_small _ hts) W (h.below hbb) (hr.below hbb) hc)
      have HBB := Lib.hid hbb
      have HFE := Lib.hid hf
      have hu : to + i = to + i := rfl
      clear hb hbW hc hf hts hmem
      generalize ss.getD i ByteArray.empty = t at *
      generalize hrt : runesOf t = ct at *
      have hiwr : IntKind.i64.wrap ((i : Int) + 1) = ((i + 1 : Nat) : Int) := by push_cast; simp [IntKind.wrap, IntKind.min, IntKind.max, IntKind.signed, IntKind.bits]; omega
      go_wp2_with fail
      refine F.out.mono ?_
      rintro x w2 ⟨rfl, d, rfl⟩
      have HB2 := Lib.hid (below_drewN HBB.out d)
      by_cases hsuf : ct <:+ partOf rs 0 e
      · have hd : decide (ct <:+ partOf rs 0 e) = true := by simpa using hsuf
        rw [if_pos hsuf] at hstep
        rw [hd]
        have hlen : ct.length ≤ e := by have := hsuf.length_le; rw [part_len rs 0 e hen] at this; omega
        have hwl : IntKind.i64.wrap ((e : Int) - (ct.length : Int)) = ((e - ct.length : Nat) : Int) := by rw [Int.ofNat_sub hlen]; simp [IntKind.wrap, IntKind.min, IntKind.max, IntKind.signed, IntKind.bits]; omega
        generalize e - ct.length = el at *
        by_cases hst2 : st ≤ el
        · have hdl : decide (st ≤ el) = true := by simpa using hst2
          rw [if_pos hst2] at hstep
          clear hst2
          go_wp2
          go_ret
          exact ⟨by rw [← HFE.out, hstep]; rfl, HB2.out⟩
        · have hdl : decide (st ≤ el) = false := by simpa using hst2
          rw [if_neg hst2] at hstep
          clear hst2
          go_wp2
          go_ret
          exact ⟨by rw [← HFE.out, hstep]; rfl, HB2.out⟩
      · have hd : decide (ct <:+ partOf rs 0 e) = false := by simpa using hsuf
        rw [if_neg hsuf] at hstep
        rw [hd]
        go_wp2
        go_roundw
        case rel => exact ⟨i + 1, by push_cast; rfl, by omega, HB2.out, by rw [← hstep]; exact HFE.out⟩
        case measure => simp [intOf]; omega
    · have hid' : decide (i < k) = false := by simpa using hik
      have hnil : firstIf (partOf rs 0 e) st e ss = ⟨#[]⟩ := by rw [← hf, List.drop_of_length_le (by omega)]; rfl
      have HN := Lib.hid hnil
      have HB := Lib.hid hb
      clear hb hf hnil
      go_wp2
      go_ret
      exact ⟨by rw [HN.out]; rfl, HB.out⟩

theorem first_suffix (p b cap : Nat) (ad : Option Addr) (tcap : Nat) (r1 r2 rv : Int) (rs : List Int) (ss : List ByteArray) (hn : rs.length ≤ 2147483647) (hss : ss.length ≤ 2147483647) (hst : ∀ t ∈ ss, t.size ≤ 2147483647) (w : World)
    (h : WordAt w p (wordRow b rs.length cap r1 r2 rv)) (hr : RunesAt w b rs) (ht : StrsAt w ad ss) :
    Calls Try.prog 48 #[.pointer (some ⟨p, 0, none⟩), .slice ad ss.length tcap] w fun x w' => x = .returned (.string (firstEnd rs ss)) ∧ Below w.heap.size w w' := by
  have c0 : w.cell? ⟨p, 0, none⟩ = some (.slice (some ⟨b, 0, none⟩) rs.length cap) := h.row 0 _ rfl
  have F := Lib.hid (first_if_in p b cap ad tcap r1 r2 rv rs ss 0 rs.length (Nat.le_refl _) hn hss hst w h hr ht)
  have hp : partOf rs 0 rs.length = rs := by simp [partOf]
  rw [hp, firstIf_zero] at F
  clear h hr ht
  go_enter Try.func48, Try.ntmps48
  go_wp2_with fail
  refine F.out.mono ?_
  rintro x w' ⟨rfl, hb⟩
  have HB := Lib.hid hb
  clear hb
  go_wp2
  go_ret
  exact ⟨rfl, HB.out⟩
end Go.Proofs.Ytaohmmpfiehniaa
