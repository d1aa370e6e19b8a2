/- A step of a word: impl.SnowStepped and spec.Stepped answer alike. -/
import Derived.Test.YtaohmmpfiehniaaStepOf
import Derived.Test.YtaohmmpfiehniaaSpecCut
import Derived.Test.YtaohmmpfiehniaaRight
set_option linter.unusedVariables false
set_option linter.unusedSimpArgs false
namespace Go.Proofs.Ytaohmmpfiehniaa
open Go Go.RowKit

/-- Both answer the same. -/
def Both (s : ByteArray) (r1 r2 rv kd N st : Int) (ad : Option Addr) (k tcap : Nat) (u : ByteArray) (f : Bool) (ss : List ByteArray) : Prop :=
  ∃ tq q1 q2 q3 txt told, (∀ w, StrsAt w ad ss → Calls Try.prog 16 #[snowV s r1 r2 rv, stepV' kd N st (.slice ad k tcap) u f] w fun e w' => e = .returned (.tuple #[snowV tq q1 q2 q3, .string txt, .bool told]) ∧ Below w.heap.size w w') ∧
    (∀ w, StrsAt w ad ss → Calls Try.prog 17 #[snowV s r1 r2 rv, stepV' kd N st (.slice ad k tcap) u f] w fun e w' => e = .returned (.tuple #[snowV tq q1 q2 q3, .string txt, .bool told]) ∧ Below w.heap.size w w')

/-- A word and a step that are right. -/
structure Good (s : ByteArray) (r1 r2 rv : Int) (N st k : Nat) (u : ByteArray) (ss : List ByteArray) : Prop where
  size : s.size ≤ 2147483647
  whole : (65533 : Int) ∉ runesOf s
  len : (runesOf s).length ≤ 60
  h1 : r1 ≤ (runesOf s).length
  h2 : r2 ≤ (runesOf s).length
  h3 : rv ≤ (runesOf s).length
  hN : N ≤ (runesOf s).length
  hst : st ≤ (runesOf s).length
  usize : u.size ≤ 2147483647
  uwhole : (65533 : Int) ∉ runesOf u
  ulen : (runesOf u).length ≤ 20
  hk : ss.length = k
  k0 : 0 < k
  k12 : k ≤ 12
  fits : ∀ t ∈ ss, t.size ≤ 2147483647
  all : ∀ t ∈ ss, (65533 : Int) ∉ runesOf t
section
variable {s : ByteArray} {r1 r2 rv : Int} {N st k : Nat} {u : ByteArray} {ss : List ByteArray}

theorem len_fn (s : ByteArray) (hs : s.size ≤ 2147483647) (n : Nat) (hn : (runesOf s).length = n) (w : World) : Calls Try.prog 10 #[.string s] w fun x w' => (∃ b cap, x = .returned (.slice (some ⟨b, 0, none⟩) n cap)) ∧ Below w.heap.size w w' := by
  subst hn
  refine (runes_fn s hs w).mono ?_
  rintro x w' ⟨⟨b, cap, rfl, _⟩, h⟩
  exact ⟨⟨b, cap, rfl⟩, h⟩
theorem valids_take {rs : List Int} (h : Valids rs) (n : Nat) : Valids (rs.take n) := fun m hm => h m (List.mem_of_mem_take hm)
theorem valids_append {rs us : List Int} (h : Valids rs) (h2 : Valids us) : Valids (rs ++ us) := fun m hm => (List.mem_append.1 hm).elim (h m) (h2 m)
theorem bytes_append (rs us : List Int) : runesBytes (rs ++ us) = runesBytes rs ++ runesBytes us := by
  have e : (runesBytes (rs ++ us)).data.toList = (runesBytes rs ++ runesBytes us).data.toList := by
    rw [ByteArray.data_append, Array.toList_append, bytes_eq, bytes_eq, bytes_eq, List.flatMap_append]
  have e2 : (runesBytes (rs ++ us)).data = (runesBytes rs ++ runesBytes us).data := Array.toList_inj.1 e
  cases h1 : runesBytes (rs ++ us); cases h2 : runesBytes rs ++ runesBytes us
  rw [h1, h2] at e2
  simp at e2
  rw [e2]

/-- A word's part, cut to its first code points. -/
theorem cut_takes (h : Good s r1 r2 rv N st k u ss) (m : Nat) (hm : m ≤ (runesOf s).length) :
    (∀ w, Calls Try.prog 39 #[.string s, .int .i64 m] w fun x w' => x = .returned (.string (runesBytes ((runesOf s).take ((runesOf s).length - m)))) ∧ Below w.heap.size w w') ∧
    (∀ w, Calls Try.prog 38 #[snowV s r1 r2 rv, .string (runesBytes ((runesOf s).take ((runesOf s).length - m)))] w fun x w' => x = .returned (snowV (runesBytes ((runesOf s).take ((runesOf s).length - m))) (lim r1 ((runesOf s).length - m : Nat)) (lim r2 ((runesOf s).length - m : Nat)) (lim rv ((runesOf s).length - m : Nat))) ∧ Below w.heap.size w w') := by
  have hl : ((runesOf s).take ((runesOf s).length - m)).length = (runesOf s).length - m := by rw [List.length_take]; omega
  refine ⟨fun w => spec_without s _ rfl m h.size hm w, fun w => spec_cut s _ r1 r2 rv _ ?_ ?_ w⟩
  · rw [runes_back _ (valids_take (valids_of s) _), hl]
  · exact bytes_small _ (by rw [hl]; have := h.len; omega)

theorem both_0 (h : Good s r1 r2 rv N st k u ss) (ad : Option Addr) (tcap : Nat) (f : Bool) : Both s r1 r2 rv 0 N st ad k tcap u f ss := by
  have hrs := runes_of s (by have := h.size; omega)
  obtain ⟨g39, g38⟩ := cut_takes h N h.hN
  refine ⟨_, _, _, _, ⟨#[]⟩, false, fun w ht => stepped_of s r1 r2 rv 0 N st _ u f false ⟨#[]⟩ _ _ _ _ w ?_, fun w ht => sp_0 s r1 r2 rv N st _ u f (runesOf s).length _ _ _ _ _ w (len_fn s h.size _ rfl) g39 g38⟩
  intro a0 a1 a2 a3 a4 wA hB ha2 hs hx o2 o3 o4 n23 n24 n34 n12 n13
  refine st_0 s (runesOf s) hrs r1 r2 rv a0 a1 a2 a3 a4 N st ad k tcap u f ((runesOf s).take ((runesOf s).length - N)) _ _ _ false ⟨#[]⟩ rfl rfl _ rfl wA ?_ hs hx o2 o3 _ _ _ _ o4 n23 n24 n34 n12 n13
  intro w1 p hws hz
  refine (remove_ws p _ N _ h.hN r1 r2 rv w1 hws).mono ?_
  rintro x w2 ⟨rfl, hw, hb⟩
  exact ⟨rfl, hw, hb hz⟩

theorem first_facts (h : Good s r1 r2 rv N st k u ss) (txt : ByteArray) (hm : txt = ⟨#[]⟩ ∨ txt ∈ ss) : txt.size ≤ 2147483647 := by
  rcases hm with h' | h'
  · rw [h']; exact Nat.zero_le _
  · exact h.fits _ h'

theorem both_3 (h : Good s r1 r2 rv N st k u ss) (ad : Option Addr) (tcap : Nat) (f : Bool) : Both s r1 r2 rv 3 N st ad k tcap u f ss := by
  have hrs := runes_of s (by have := h.size; omega)
  have hn : (runesOf s).length ≤ 2147483647 := by have := h.len; omega
  have hk := h.hk
  have hss : ss.length ≤ 2147483647 := by have := h.k12; omega
  have hts := first_facts h _ (firstEnd_mem (runesOf s) ss)
  obtain ⟨g39, g38⟩ := cut_takes h (runesOf (firstEnd (runesOf s) ss)).length (firstEnd_len _ _)
  subst hk
  refine ⟨_, _, _, _, firstEnd (runesOf s) ss, false, fun w ht => stepped_of s r1 r2 rv 3 N st _ u f false _ _ _ _ _ w ?_, fun w ht => sp_3 s r1 r2 rv N st _ u f (runesOf s).length ad _ tcap ss rfl _ _ _ _ _ _ _ w (len_fn s h.size _ rfl) ht ?_ (len_fn _ hts _ rfl) g39 g38⟩
  · intro a0 a1 a2 a3 a4 wA hB ha2 hs hx o2 o3 o4 n23 n24 n34 n12 n13
    refine st_3 s (runesOf s) hrs r1 r2 rv a0 a1 a2 a3 a4 N st ad _ tcap u f ((runesOf s).take ((runesOf s).length - (runesOf (firstEnd (runesOf s) ss)).length)) _ _ _ false _ rfl _ rfl wA ss (ht.below hB) ?_ hs hx o2 o3 _ _ _ _ o4 n23 n24 n34 n12 n13
    intro w1 p hws hts1 hz
    refine (remove_first_of p _ ad tcap r1 r2 rv _ ss h.h1 h.h2 h.h3 hn hss h.fits _ rfl w1 hws hts1).mono ?_
    rintro x w2 ⟨rfl, hw, hb⟩
    exact ⟨rfl, hw, hb hz⟩
  · intro w' ht'
    rw [← firstBy_ends s h.whole ss h.all]
    exact first_of_ends s h.size ad tcap ss hss h.fits w' ht'

theorem both_4 (h : Good s r1 r2 rv N st k u ss) (ad : Option Addr) (tcap : Nat) (f : Bool) : Both s r1 r2 rv 4 N st ad k tcap u f ss := by
  have hrs := runes_of s (by have := h.size; omega)
  have hn : (runesOf s).length ≤ 2147483647 := by have := h.len; omega
  have hk := h.hk
  have hss : ss.length ≤ 2147483647 := by have := h.k12; omega
  have hts := first_facts h _ (firstEnd_mem (partOf (runesOf s) st (runesOf s).length) ss)
  have hpl := part_len (runesOf s) st (runesOf s).length (Nat.le_refl _)
  have hlen := firstEnd_len (partOf (runesOf s) st (runesOf s).length) ss
  obtain ⟨g39, g38⟩ := cut_takes h (runesOf (firstEnd (partOf (runesOf s) st (runesOf s).length) ss)).length (by omega)
  subst hk
  refine ⟨_, _, _, _, firstEnd (partOf (runesOf s) st (runesOf s).length) ss, false, fun w ht => stepped_of s r1 r2 rv 4 N st _ u f false _ _ _ _ _ w ?_, fun w ht => sp_4 s r1 r2 rv N st _ u f (runesOf s).length ad _ tcap ss rfl _ _ _ _ _ _ _ _ w (len_fn s h.size _ rfl) ht (fun w => spec_between s _ rfl st _ h.size h.hst (Nat.le_refl _) w) ?_ (len_fn _ hts _ rfl) g39 g38⟩
  · intro a0 a1 a2 a3 a4 wA hB ha2 hs hx o2 o3 o4 n23 n24 n34 n12 n13
    refine st_4 s (runesOf s) hrs r1 r2 rv a0 a1 a2 a3 a4 N st ad _ tcap u f ((runesOf s).take ((runesOf s).length - (runesOf (firstEnd (partOf (runesOf s) st (runesOf s).length) ss)).length)) _ _ _ false _ rfl _ rfl wA ss (ht.below hB) ?_ hs hx o2 o3 _ _ _ _ o4 n23 n24 n34 n12 n13
    intro w1 p hws hts1 hz
    refine (remove_in p _ ad tcap r1 r2 rv _ ss st h.hst h.h1 h.h2 h.h3 hn hss h.fits _ rfl w1 hws hts1).mono ?_
    rintro x w2 ⟨rfl, hw, hb⟩
    exact ⟨rfl, hw, hb hz⟩
  · intro w' ht'
    exact first_of_part s h.whole st _ (by have := h.len; omega) ad tcap ss h.all hss h.fits w' ht'

theorem both_5 (h : Good s r1 r2 rv N st k u ss) (ad : Option Addr) (tcap : Nat) (f : Bool) : Both s r1 r2 rv 5 N st ad k tcap u f ss := by
  have hrs := runes_of s (by have := h.size; omega)
  have hn : (runesOf s).length ≤ 2147483647 := by have := h.len; omega
  have hk := h.hk
  have hss : ss.length ≤ 2147483647 := by have := h.k12; omega
  have hts := first_facts h _ (firstIf_mem (partOf (runesOf s) 0 (runesOf s).length) st (runesOf s).length ss)
  have hpl := part_len (runesOf s) 0 (runesOf s).length (Nat.le_refl _)
  have hlen := firstIf_len (partOf (runesOf s) 0 (runesOf s).length) st (runesOf s).length ss
  obtain ⟨g39, g38⟩ := cut_takes h (runesOf (firstIf (partOf (runesOf s) 0 (runesOf s).length) st (runesOf s).length ss)).length (by omega)
  subst hk
  refine ⟨_, _, _, _, firstIf (partOf (runesOf s) 0 (runesOf s).length) st (runesOf s).length ss, false, fun w ht => stepped_of s r1 r2 rv 5 N st _ u f false _ _ _ _ _ w ?_, fun w ht => sp_5 s r1 r2 rv N st _ u f (runesOf s).length ad _ tcap ss rfl _ _ _ _ _ _ _ w (len_fn s h.size _ rfl) ht (fun w' ht' => spec_first_if s h.size h.len h.whole st _ h.hst (Nat.le_refl _) ad tcap ss h.all hss h.fits w' ht') (len_fn _ hts _ rfl) g39 g38⟩
  intro a0 a1 a2 a3 a4 wA hB ha2 hs hx o2 o3 o4 n23 n24 n34 n12 n13
  refine st_5 s (runesOf s) hrs r1 r2 rv a0 a1 a2 a3 a4 N st ad _ tcap u f ((runesOf s).take ((runesOf s).length - (runesOf (firstIf (partOf (runesOf s) 0 (runesOf s).length) st (runesOf s).length ss)).length)) _ _ _ false _ rfl _ rfl wA ss (ht.below hB) ?_ hs hx o2 o3 _ _ _ _ o4 n23 n24 n34 n12 n13
  intro w1 p hws hts1 hz
  refine (remove_if_in p _ ad tcap r1 r2 rv _ ss st h.hst h.h1 h.h2 h.h3 hn hss h.fits _ rfl w1 hws hts1).mono ?_
  rintro x w2 ⟨rfl, hw, hb⟩
  exact ⟨rfl, hw, hb hz⟩
end
end Go.Proofs.Ytaohmmpfiehniaa
