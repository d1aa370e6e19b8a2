/- A step of a word that replaces a suffix: impl.SnowStepped and spec.Stepped answer alike. -/
import Derived.Test.YtaohmmpfiehniaaStepAll
set_option linter.unusedVariables false
set_option linter.unusedSimpArgs false
namespace Go.Proofs.Ytaohmmpfiehniaa
open Go Go.RowKit
section
variable {s : ByteArray} {r1 r2 rv : Int} {N st k : Nat} {u : ByteArray} {ss : List ByteArray}

theorem both_1 (h : Good s r1 r2 rv N st k u ss) (ad : Option Addr) (tcap : Nat) (f : Bool) (hf : f = true → (runesOf (ss.getD 0 ByteArray.empty)).length ≤ (runesOf s).length) : Both s r1 r2 rv 1 N st ad k tcap u f ss := by
  have hrs := runes_of s (by have := h.size; omega)
  have hn : (runesOf s).length ≤ 2147483647 := by have := h.len; omega
  have hk := h.hk
  have h0 : 0 < ss.length := by have := h.k0; omega
  have hmem : ss.getD 0 ByteArray.empty ∈ ss := by
    simp only [List.getD, List.getElem?_eq_getElem h0, Option.getD_some]; exact List.getElem_mem _
  have htz := h.fits _ hmem
  have htw := h.all _ hmem
  have hat : ∀ w, StrsAt w ad ss → ∃ bt ot, ad = some ⟨bt, ot, none⟩ ∧ w.cell? ⟨bt, ot, none⟩ = some (.string (ss.getD 0 ByteArray.empty)) := fun w ht => by
    obtain ⟨b, o, h1, h2⟩ := ht 0 h0
    exact ⟨b, o, h1, by rw [Nat.add_zero] at h2; exact h2⟩
  generalize ss.getD 0 ByteArray.empty = t at *
  have hends : ∀ w, Calls Try.prog 23 #[.string s, .string t] w fun x w' => x = .returned (.bool (decide (runesOf t <:+ runesOf s))) ∧ w = w' := fun w => by
    have e : decide (t.data.toList <:+ s.data.toList) = decide (runesOf t <:+ runesOf s) := by rw [decide_eq_decide]; exact text_ends h.whole htw
    rw [← e]; exact spec_ends s t h.size htz w
  by_cases hyes : f = true ∨ runesOf t <:+ runesOf s
  · have hm : (runesOf t).length ≤ (runesOf s).length := by
      rcases hyes with h' | h'
      · exact hf h'
      · exact h'.length_le
    have hy : f = false → runesOf t <:+ runesOf s := fun h' => by
      rcases hyes with h'' | h''
      · rw [h''] at h'; cases h'
      · exact h''
    have hl : ((runesOf s).take ((runesOf s).length - (runesOf t).length)).length = (runesOf s).length - (runesOf t).length := by rw [List.length_take]; omega
    have hb : runesBytes ((runesOf s).take ((runesOf s).length - (runesOf t).length)) ++ u = runesBytes ((runesOf s).take ((runesOf s).length - (runesOf t).length) ++ runesOf u) := by
      rw [bytes_append, trip u h.uwhole]
    have hs0 := bytes_small ((runesOf s).take ((runesOf s).length - (runesOf t).length)) (by rw [hl]; have := h.len; omega)
    have g39 := (cut_takes h (runesOf t).length hm).1
    have g38 : ∀ w, Calls Try.prog 38 #[snowV s r1 r2 rv, .string (runesBytes ((runesOf s).take ((runesOf s).length - (runesOf t).length)) ++ u)] w fun x w' => x = .returned (snowV (runesBytes ((runesOf s).take ((runesOf s).length - (runesOf t).length) ++ runesOf u)) (lim r1 ((runesOf s).length - (runesOf t).length + (runesOf u).length : Nat)) (lim r2 ((runesOf s).length - (runesOf t).length + (runesOf u).length : Nat)) (lim rv ((runesOf s).length - (runesOf t).length + (runesOf u).length : Nat))) ∧ Below w.heap.size w w' := fun w => by
      rw [hb]
      refine spec_cut s _ r1 r2 rv _ ?_ ?_ w
      · rw [runes_back _ (valids_append (valids_take (valids_of s) _) (valids_of u)), List.length_append, hl]
      · exact bytes_small _ (by rw [List.length_append, hl]; have := h.len; have := h.ulen; omega)
    refine ⟨runesBytes ((runesOf s).take ((runesOf s).length - (runesOf t).length) ++ runesOf u), lim r1 ((runesOf s).length - (runesOf t).length + (runesOf u).length : Nat), lim r2 ((runesOf s).length - (runesOf t).length + (runesOf u).length : Nat), lim rv ((runesOf s).length - (runesOf t).length + (runesOf u).length : Nat), ⟨#[]⟩, true, fun w ht => stepped_of s r1 r2 rv 1 N st _ u f true ⟨#[]⟩ _ _ _ _ w ?_, fun w ht => ?_⟩
    · intro a0 a1 a2 a3 a4 wA hB ha2 hs hx o2 o3 o4 n23 n24 n34 n12 n13
      obtain ⟨bt, ot, had, hq⟩ := hat w ht
      have hbl := World.block_lt_of_cell? w _ hq
      have hbl' : bt < w.heap.size := hbl
      refine st_1 s (runesOf s) hrs r1 r2 rv a0 a1 a2 a3 a4 N st ad k tcap u f ((runesOf s).take ((runesOf s).length - (runesOf t).length) ++ runesOf u) _ _ _ true ⟨#[]⟩ rfl _ rfl wA t bt ot had h.k0 (belowRow hB hq) (by omega) ?_ hs hx o2 o3 _ _ _ _ o4 n23 n24 n34 n12 n13
      intro w1 p hws hz
      refine (suffix_yes p _ r1 r2 rv _ t u f hy hm hn htz h.usize w1 hws).mono ?_
      rintro x w2 ⟨rfl, hw, hb⟩
      exact ⟨rfl, hw, hb hz⟩
    · obtain ⟨bt, ot, had, hq⟩ := hat w ht
      subst had
      cases f with
      | true => exact sp_1_f s r1 r2 rv N st _ u true (runesOf s).length _ _ _ _ _ (runesOf t).length (by have := h.usize; omega) w (len_fn s h.size _ rfl) rfl bt ot k tcap t rfl h.k0 hq (len_fn t htz _ rfl) g39 g38
      | false =>
        refine sp_1_e s r1 r2 rv N st _ u false (runesOf s).length _ _ _ _ _ (runesOf t).length (by have := h.usize; omega) w (len_fn s h.size _ rfl) rfl bt ot k tcap t rfl h.k0 hq (len_fn t htz _ rfl) g39 g38 ?_
        intro w'
        have e := hends w'
        rw [decide_eq_true (hy rfl)] at e
        exact e
  · have hff : f = false := by cases f; rfl; exact absurd (Or.inl rfl) hyes
    have hno : ¬ runesOf t <:+ runesOf s := fun h' => hyes (Or.inr h')
    subst hff
    refine ⟨s, r1, r2, rv, ⟨#[]⟩, false, fun w ht => stepped_of s r1 r2 rv 1 N st _ u false false ⟨#[]⟩ _ _ _ _ w ?_, fun w ht => ?_⟩
    · intro a0 a1 a2 a3 a4 wA hB ha2 hs hx o2 o3 o4 n23 n24 n34 n12 n13
      obtain ⟨bt, ot, had, hq⟩ := hat w ht
      have hbl := World.block_lt_of_cell? w _ hq
      have hbl' : bt < w.heap.size := hbl
      refine st_1 s (runesOf s) hrs r1 r2 rv a0 a1 a2 a3 a4 N st ad k tcap u false (runesOf s) _ _ _ false ⟨#[]⟩ rfl _ (trip s h.whole) wA t bt ot had h.k0 (belowRow hB hq) (by omega) ?_ hs hx o2 o3 _ _ _ _ o4 n23 n24 n34 n12 n13
      intro w1 p hws hz
      refine (suffix_no p _ r1 r2 rv _ t u hno hn htz w1 hws).mono ?_
      rintro x w2 ⟨rfl, hb⟩
      exact ⟨rfl, hws.below hb, hb.mono hz⟩
    · obtain ⟨bt, ot, had, hq⟩ := hat w ht
      subst had
      refine sp_1_no s r1 r2 rv N st _ u false (runesOf s).length w (len_fn s h.size _ rfl) rfl bt ot k tcap t rfl h.k0 hq ?_
      intro w'
      have e := hends w'
      rw [decide_eq_false hno] at e
      exact e

theorem both_2 (h : Good s r1 r2 rv N st k u ss) (ad : Option Addr) (tcap : Nat) (f : Bool) (hf : f = true → (runesOf (ss.getD 0 ByteArray.empty)).length ≤ (runesOf s).length) : Both s r1 r2 rv 2 N st ad k tcap u f ss := by
  have hrs := runes_of s (by have := h.size; omega)
  have hn : (runesOf s).length ≤ 2147483647 := by have := h.len; omega
  have hk := h.hk
  have h0 : 0 < ss.length := by have := h.k0; omega
  have hmem : ss.getD 0 ByteArray.empty ∈ ss := by
    simp only [List.getD, List.getElem?_eq_getElem h0, Option.getD_some]; exact List.getElem_mem _
  have htz := h.fits _ hmem
  have htw := h.all _ hmem
  have hat : ∀ w, StrsAt w ad ss → ∃ bt ot, ad = some ⟨bt, ot, none⟩ ∧ w.cell? ⟨bt, ot, none⟩ = some (.string (ss.getD 0 ByteArray.empty)) := fun w ht => by
    obtain ⟨b, o, h1, h2⟩ := ht 0 h0
    exact ⟨b, o, h1, by rw [Nat.add_zero] at h2; exact h2⟩
  generalize ss.getD 0 ByteArray.empty = t at *
  have hends : ∀ w, Calls Try.prog 23 #[.string s, .string t] w fun x w' => x = .returned (.bool (decide (runesOf t <:+ runesOf s))) ∧ w = w' := fun w => by
    have e : decide (t.data.toList <:+ s.data.toList) = decide (runesOf t <:+ runesOf s) := by rw [decide_eq_decide]; exact text_ends h.whole htw
    rw [← e]; exact spec_ends s t h.size htz w
  by_cases hyes : f = true ∨ runesOf t <:+ runesOf s
  · have hm : (runesOf t).length ≤ (runesOf s).length := by
      rcases hyes with h' | h'
      · exact hf h'
      · exact h'.length_le
    have hy : f = false → runesOf t <:+ runesOf s := fun h' => by
      rcases hyes with h'' | h''
      · rw [h''] at h'; cases h'
      · exact h''
    have hl : ((runesOf s).take ((runesOf s).length - (runesOf t).length)).length = (runesOf s).length - (runesOf t).length := by rw [List.length_take]; omega
    have hb : runesBytes ((runesOf s).take ((runesOf s).length - (runesOf t).length)) ++ u = runesBytes ((runesOf s).take ((runesOf s).length - (runesOf t).length) ++ runesOf u) := by
      rw [bytes_append, trip u h.uwhole]
    have hs0 := bytes_small ((runesOf s).take ((runesOf s).length - (runesOf t).length)) (by rw [hl]; have := h.len; omega)
    have g39 := (cut_takes h (runesOf t).length hm).1
    have g38 : ∀ w, Calls Try.prog 38 #[snowV s r1 r2 rv, .string (runesBytes ((runesOf s).take ((runesOf s).length - (runesOf t).length)) ++ u)] w fun x w' => x = .returned (snowV (runesBytes ((runesOf s).take ((runesOf s).length - (runesOf t).length) ++ runesOf u)) (lim r1 ((runesOf s).length - (runesOf t).length + (runesOf u).length : Nat)) (lim r2 ((runesOf s).length - (runesOf t).length + (runesOf u).length : Nat)) (lim rv ((runesOf s).length - (runesOf t).length + (runesOf u).length : Nat))) ∧ Below w.heap.size w w' := fun w => by
      rw [hb]
      refine spec_cut s _ r1 r2 rv _ ?_ ?_ w
      · rw [runes_back _ (valids_append (valids_take (valids_of s) _) (valids_of u)), List.length_append, hl]
      · exact bytes_small _ (by rw [List.length_append, hl]; have := h.len; have := h.ulen; omega)
    refine ⟨runesBytes ((runesOf s).take ((runesOf s).length - (runesOf t).length) ++ runesOf u), lim r1 ((runesOf s).length - (runesOf t).length + (runesOf u).length : Nat), lim r2 ((runesOf s).length - (runesOf t).length + (runesOf u).length : Nat), lim rv ((runesOf s).length - (runesOf t).length + (runesOf u).length : Nat), ⟨#[]⟩, true, fun w ht => stepped_of s r1 r2 rv 2 N st _ u f true ⟨#[]⟩ _ _ _ _ w ?_, fun w ht => ?_⟩
    · intro a0 a1 a2 a3 a4 wA hB ha2 hs hx o2 o3 o4 n23 n24 n34 n12 n13
      obtain ⟨bt, ot, had, hq⟩ := hat w ht
      have hbl := World.block_lt_of_cell? w _ hq
      have hbl' : bt < w.heap.size := hbl
      refine st_2 s (runesOf s) hrs r1 r2 rv a0 a1 a2 a3 a4 N st ad k tcap u f ((runesOf s).take ((runesOf s).length - (runesOf t).length) ++ runesOf u) _ _ _ true ⟨#[]⟩ rfl _ rfl wA t (runesOf t) (runesOf u) (runes_of t (by omega)) (runes_of u (by have := h.usize; omega)) bt ot had h.k0 (belowRow hB hq) (by omega) ?_ hs hx o2 o3 _ _ _ _ o4 n23 n24 n34 n12 n13
      intro w1 p c ccap d dcap hws hc hd hz
      refine (replace_yes p _ c ccap d dcap r1 r2 rv _ _ _ f hy hm hn (runesOf_small t htz) (runesOf_small u h.usize) w1 hws hc hd).mono ?_
      rintro x w2 ⟨rfl, hw, hb⟩
      exact ⟨rfl, hw, hb hz⟩
    · obtain ⟨bt, ot, had, hq⟩ := hat w ht
      subst had
      cases f with
      | true => exact sp_2_f s r1 r2 rv N st _ u true (runesOf s).length _ _ _ _ _ (runesOf t).length (by have := h.usize; omega) w (len_fn s h.size _ rfl) rfl bt ot k tcap t rfl h.k0 hq (len_fn t htz _ rfl) g39 g38
      | false =>
        refine sp_2_e s r1 r2 rv N st _ u false (runesOf s).length _ _ _ _ _ (runesOf t).length (by have := h.usize; omega) w (len_fn s h.size _ rfl) rfl bt ot k tcap t rfl h.k0 hq (len_fn t htz _ rfl) g39 g38 ?_
        intro w'
        have e := hends w'
        rw [decide_eq_true (hy rfl)] at e
        exact e
  · have hff : f = false := by cases f; rfl; exact absurd (Or.inl rfl) hyes
    have hno : ¬ runesOf t <:+ runesOf s := fun h' => hyes (Or.inr h')
    subst hff
    refine ⟨s, r1, r2, rv, ⟨#[]⟩, false, fun w ht => stepped_of s r1 r2 rv 2 N st _ u false false ⟨#[]⟩ _ _ _ _ w ?_, fun w ht => ?_⟩
    · intro a0 a1 a2 a3 a4 wA hB ha2 hs hx o2 o3 o4 n23 n24 n34 n12 n13
      obtain ⟨bt, ot, had, hq⟩ := hat w ht
      have hbl := World.block_lt_of_cell? w _ hq
      have hbl' : bt < w.heap.size := hbl
      refine st_2 s (runesOf s) hrs r1 r2 rv a0 a1 a2 a3 a4 N st ad k tcap u false (runesOf s) _ _ _ false ⟨#[]⟩ rfl _ (trip s h.whole) wA t (runesOf t) (runesOf u) (runes_of t (by omega)) (runes_of u (by have := h.usize; omega)) bt ot had h.k0 (belowRow hB hq) (by omega) ?_ hs hx o2 o3 _ _ _ _ o4 n23 n24 n34 n12 n13
      intro w1 p c ccap d dcap hws hc hd hz
      refine (replace_no p _ c ccap d dcap r1 r2 rv _ _ (runesOf u) hno hn (runesOf_small t htz) w1 hws hc).mono ?_
      rintro x w2 ⟨rfl, e, rfl⟩
      exact ⟨rfl, hws.drewN e, below_drewN (Below.refl _ _) e⟩
    · obtain ⟨bt, ot, had, hq⟩ := hat w ht
      subst had
      refine sp_2_no s r1 r2 rv N st _ u false (runesOf s).length w (len_fn s h.size _ rfl) rfl bt ot k tcap t rfl h.k0 hq ?_
      intro w'
      have e := hends w'
      rw [decide_eq_false hno] at e
      exact e
end
end Go.Proofs.Ytaohmmpfiehniaa
