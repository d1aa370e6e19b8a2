/- The contracts of spec.Between and spec.FirstIf; the part of a word in plain terms. -/
import Derived.Test.YtaohmmpfiehniaaBetween
import Derived.Test.YtaohmmpfiehniaaBack
set_option linter.unusedVariables false
set_option linter.unusedSimpArgs false
namespace Go.Proofs.Ytaohmmpfiehniaa
open Go.RowKit

theorem enc_le (n : Int) : (enc n).length ≤ 4 := by
  unfold enc Utf8.encode; dsimp only; split <;> (try split) <;> (try split) <;> (try split) <;> simp
theorem flat_le : ∀ rs : List Int, (rs.flatMap enc).length ≤ 4 * rs.length
  | [] => by simp
  | n :: rs => by
    have h1 := enc_le n
    have h2 := flat_le rs
    rw [List.flatMap_cons, List.length_append, List.length_cons]; omega
theorem bytes_small (rs : List Int) (h : rs.length ≤ 200000000) : (runesBytes rs).size ≤ 2147483647 := by
  have hz : (runesBytes rs).size = (runesBytes rs).data.toList.length := by rw [Array.length_toList]; rfl
  rw [hz, bytes_eq]
  have := flat_le rs
  omega
theorem conv_part0 (b st e c : Nat) (rs : List Int) (w : World) (h : e ≤ st) : (convert 24 9 (.slice (some ⟨b, 0, none⟩) (e - st) c)).run Try.prog w = .ok (.string (runesBytes (partOf rs st e))) w := by
  have hp : partOf rs st e = [] := by unfold partOf; rw [List.drop_eq_nil_iff, List.length_take]; omega
  have := run_convert_runes (P := Try.prog) w 24 9 21 ⟨b, 0, none⟩ 0 c [] (Nat.le_refl _) Try.underlying24 Try.underlying21 Try.underlying9 (fun j hj => by simp at hj)
  rw [show e - st = 0 by omega, hp]
  exact this

theorem spec_between (s : ByteArray) (rs : List Int) (hrs : runesOf s = rs) (st e : Nat) (hs : s.size ≤ 2147483647) (hse : st ≤ e) (hen : e ≤ rs.length) (w : World) :
    Calls Try.prog 20 #[.string s, .int .i64 st, .int .i64 e] w fun x w' => x = .returned (.string (runesBytes (partOf rs st e))) ∧ Below w.heap.size w w' := by
  have hf := runes_fn s hs w
  have hn := runesOf_small s hs
  rw [hrs] at hf hn
  have hse' : (st : Int) ≤ (e : Int) := by omega
  have h0 : (0 : Int) ≤ (st : Int) := by omega
  go_enter Try.func20, Try.ntmps20
  go_wp2_with fail
  refine hf.mono ?_
  rintro x w1 ⟨⟨b, cap, rfl, hr, hc1, hc2⟩, hb⟩
  have HB := Lib.hid hb
  unfold maxLen at hc2
  have hec : e ≤ cap := by omega
  by_cases hck : cap = st
  · have hcv := conv_part0 b st e 0 rs w1 (by omega)
    clear hr hb hf hrs
    go_wp2
    go_ret
    exact ⟨rfl, HB.out⟩
  · have hcv := conv_part b st e (cap - st) rs w1 hr hse hen
    clear hr hb hf hrs
    go_wp2
    go_ret
    exact ⟨rfl, HB.out⟩

/-- The first one, if it begins from a place on. -/
theorem firstIf_eq (ps : List Int) (st e : Nat) : ∀ ss : List ByteArray, firstIf ps st e ss = if st ≤ e - (runesOf (firstEnd ps ss)).length then firstEnd ps ss else ⟨#[]⟩
  | [] => (ite_self _).symm
  | t :: ts => by
    by_cases h : runesOf t <:+ ps
    · simp only [firstIf, firstEnd, if_pos h]
    · simp only [firstIf, firstEnd, if_neg h]; exact firstIf_eq ps st e ts
theorem firstEnd_len (ps : List Int) : ∀ ss : List ByteArray, (runesOf (firstEnd ps ss)).length ≤ ps.length
  | [] => (Nat.zero_le _ : 0 ≤ ps.length)
  | t :: ts => by
    by_cases h : runesOf t <:+ ps
    · simp only [firstEnd, if_pos h]; exact h.length_le
    · simp only [firstEnd, if_neg h]; exact firstEnd_len ps ts
theorem firstEnd_mem (ps : List Int) : ∀ ss : List ByteArray, firstEnd ps ss = ⟨#[]⟩ ∨ firstEnd ps ss ∈ ss
  | [] => Or.inl rfl
  | t :: ts => by
    by_cases h : runesOf t <:+ ps
    · simp [firstEnd, if_pos h]
    · simp only [firstEnd, if_neg h]
      rcases firstEnd_mem ps ts with h | h
      · exact Or.inl h
      · exact Or.inr (List.mem_cons_of_mem _ h)

theorem part_valid {s : ByteArray} (st e : Nat) : Valids (partOf (runesOf s) st e) := fun m hm => valids_of s m (List.mem_of_mem_take (List.mem_of_mem_drop hm))
theorem part_whole {s : ByteArray} (h : (65533 : Int) ∉ runesOf s) (st e : Nat) : (65533 : Int) ∉ runesOf (runesBytes (partOf (runesOf s) st e)) := by
  rw [runes_back _ (part_valid st e)]
  intro hm; exact h (List.mem_of_mem_take (List.mem_of_mem_drop hm))

/-- spec.FirstOf of a part: the first text that ends its code points. -/
theorem first_of_part (s : ByteArray) (hs : (65533 : Int) ∉ runesOf s) (st e : Nat) (hl : (partOf (runesOf s) st e).length ≤ 200000000) (ad : Option Addr) (tcap : Nat) (ss : List ByteArray) (hall : ∀ t ∈ ss, (65533 : Int) ∉ runesOf t) (hss : ss.length ≤ 2147483647) (hst : ∀ t ∈ ss, t.size ≤ 2147483647) (w : World) (ht : StrsAt w ad ss) :
    Calls Try.prog 21 #[.string (runesBytes (partOf (runesOf s) st e)), .slice ad ss.length tcap, .bool false] w fun x w' => x = .returned (.string (firstEnd (partOf (runesOf s) st e) ss)) ∧ w = w' := by
  have h := firstBy_ends (runesBytes (partOf (runesOf s) st e)) (part_whole hs st e) ss hall
  rw [runes_back _ (part_valid st e)] at h
  rw [← h]
  exact first_of_ends _ (bytes_small _ hl) ad tcap ss hss hst w ht

set_option maxHeartbeats 2000000 in
theorem spec_first_if (s : ByteArray) (hz : s.size ≤ 2147483647) (hrl : (runesOf s).length ≤ 60) (hs : (65533 : Int) ∉ runesOf s) (st e : Nat) (hse : st ≤ e) (hen : e ≤ (runesOf s).length) (ad : Option Addr) (tcap : Nat) (ss : List ByteArray) (hall : ∀ t ∈ ss, (65533 : Int) ∉ runesOf t) (hss : ss.length ≤ 2147483647) (hst : ∀ t ∈ ss, t.size ≤ 2147483647) (w : World) (ht : StrsAt w ad ss) :
    Calls Try.prog 22 #[.string s, .int .i64 st, .int .i64 e, .slice ad ss.length tcap] w fun x w' => x = .returned (.string (firstIf (partOf (runesOf s) 0 e) st e ss)) ∧ Below w.heap.size w w' := by
  have hpl := part_len (runesOf s) 0 e hen
  have F1 := spec_between s (runesOf s) rfl 0 e (by omega) (Nat.zero_le _) hen w
  have F2 := Lib.hid (fun w ht => first_of_part s hs 0 e (by omega) ad tcap ss hall hss hst w ht)
  have hlen := firstEnd_len (partOf (runesOf s) 0 e) ss
  have hmem := firstEnd_mem (partOf (runesOf s) 0 e) ss
  have heq := firstIf_eq (partOf (runesOf s) 0 e) st e ss
  generalize hx : firstEnd (partOf (runesOf s) 0 e) ss = x at *
  have hxs : x.size ≤ 2147483647 := by
    rcases hmem with h | h
    · rw [h]; exact Nat.zero_le _
    · exact hst _ h
  have F3 := Lib.hid (fun w => runes_fn x hxs w)
  generalize hn : (runesOf x).length = n at *
  rw [hpl, Nat.sub_zero] at hlen
  have hw : IntKind.i64.wrap ((e : Int) - (n : Int)) = ((e - n : Nat) : Int) := by rw [Int.ofNat_sub hlen]; simp [IntKind.wrap, IntKind.min, IntKind.max, IntKind.signed, IntKind.bits]; omega
  obtain ⟨k, hk⟩ : ∃ k, ss.length = k := ⟨_, rfl⟩
  rw [hk] at F2 ⊢
  have HT := Lib.hid ht
  have HE := Lib.hid heq
  have HN := Lib.hid hn
  clear heq hmem hx ht hxs hst hss hall hk hpl hrl hs hn
  generalize runesBytes (partOf (runesOf s) 0 e) = pb at *
  generalize hfi : firstIf (partOf (runesOf s) 0 e) st e ss = y at *
  go_enter Try.func22, Try.ntmps22
  go_wp2_with fail
  refine F1.mono ?_
  rintro q w1 ⟨rfl, hb1⟩
  have HB := Lib.hid hb1
  clear F1
  go_wp2_with fail
  refine (F2.out w1 (HT.out.below hb1)).mono ?_
  rintro q w2 ⟨rfl, rfl⟩
  clear hb1
  go_wp2_with fail
  refine (F3.out w1).mono ?_
  rintro q w2 ⟨⟨b, cap, rfl, hr, hc1, hc2⟩, hb⟩
  have HB2 := Lib.hid (HB.out.trans (hb.mono HB.out.size))
  clear hr hb hc1 hc2 HT
  by_cases hlt : st ≤ e - n
  · have hd : decide ((e - n) < st) = false := by rw [decide_eq_false_iff_not]; omega
    have hd' : decide (((e - n : Nat) : Int) < (st : Int)) = false := by rw [decide_eq_false_iff_not]; omega
    have hy := HE.out
    rw [if_pos hlt] at hy
    subst hy
    clear hlt
    generalize e - n = en at *
    go_wp2
    go_ret
    exact ⟨rfl, HB2.out⟩
  · have hd : decide ((e - n) < st) = true := by rw [decide_eq_true_eq]; omega
    have hd' : decide (((e - n : Nat) : Int) < (st : Int)) = true := by rw [decide_eq_true_eq]; omega
    have hy := HE.out
    rw [if_neg hlt] at hy
    subst hy
    clear hlt
    generalize e - n = en at *
    go_wp2
    go_ret
    exact ⟨rfl, HB2.out⟩
end Go.Proofs.Ytaohmmpfiehniaa
