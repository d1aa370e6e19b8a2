/- What utf8 reads between a text's code points, as contracts of the functions that the fragmenter calls. -/
import Derived.Test.YtbfelpgojgaeoaaDoorRunes
import Derived.Test.YtbfelpgojgaeoaaDoorMem
import Derived.Test.YtbfelpgojgaeoaaDoorShelf
set_option linter.unusedVariables false
set_option linter.unusedSimpArgs false
set_option maxRecDepth 100000
namespace Go.Proofs.YtbfelpgojgaeoaaDoor
open Go.RowKit

theorem tabsBelow {w w1 : World} (hb : Below w.heap.size w w1) (h : Lib.Utf8Tabs 0 1 w) : Lib.Utf8Tabs 0 1 w1 :=
  ⟨fun c hc => belowRow hb (h.1 c hc), fun i hi => ⟨belowRow hb (h.2 i hi).1, belowRow hb (h.2 i hi).2⟩⟩

/-- A text's bytes lie in a block; utf8's tables are there. -/
structure Inp (w : World) (b : Nat) (s : ByteArray) : Prop where
  tab : Lib.Utf8Tabs 0 1 w
  byt : ∀ j, j < s.size → w.cell? ⟨b, j, none⟩ = some (.int .u8 (s.get! j).toNat)
theorem Inp.below {w w1 : World} {b : Nat} {s : ByteArray} (h : Inp w b s) (hb : Below w.heap.size w w1) : Inp w1 b s := ⟨tabsBelow hb h.tab, fun j hj => belowRow hb (h.byt j hj)⟩

theorem get_ext (s : ByteArray) (i j k : Nat) (hj : j ≤ s.size) (hk : k < j - i) : (s.extract i j).get! k = s.get! (i + k) := by
  have h1 := Go.Lib.getD_get! (s.extract i j) k
  have h2 := Go.Lib.getD_get! s (i + k)
  rw [← h1, ← h2, ext_list]
  simp only [List.getD, List.getElem?_take, List.getElem?_drop]
  rw [if_pos hk]
theorem Inp.part {w : World} {b : Nat} {s : ByteArray} (h : Inp w b s) (i j : Nat) (hj : j ≤ s.size) : ∀ k, k < (s.extract i j).size → w.cell? ⟨b, i + k, none⟩ = some (.int .u8 ((s.extract i j).get! k).toNat) := by
  intro k hk
  rw [ByteArray.size_extract] at hk
  rw [get_ext s i j k hj (by omega)]
  exact h.byt _ (by omega)

section
variable {s : ByteArray} {rs : List Nat} {w : World} {b cap : Nat}
theorem dec_at (h : Txt s rs) (hn : 65533 ∉ rs) (I : Inp w b s) {k : Nat} (hk : k < rs.length) (len : Nat) (hlen : len = s.size - off rs k) :
    Calls Tryd.prog 24 #[.slice (some ⟨b, off rs k, none⟩) len (cap - off rs k)] w fun e w' => ∃ r d : Nat, r ≠ 65533 ∧ off rs k + d = off rs (k + 1) ∧ e = .returned (.tuple #[.int .i32 r, .int .i64 d]) ∧ Below w.heap.size w w' := by
  have hl := off_lt h.vs hk
  have hsz := h.off_le (k := k) (by omega)
  have c := Tryd.utf8_DecodeRune (s.extract (off rs k) s.size) b (off rs k) (cap - off rs k) w I.tab (I.part _ _ (Nat.le_refl _))
  have e : (s.extract (off rs k) s.size).size = len := by rw [ByteArray.size_extract]; omega
  rw [e, h.decGo hk] at c
  refine c.mono ?_
  rintro e w' ⟨rfl, hb⟩
  exact ⟨rs[k], off rs (k + 1) - off rs k, fun hh => hn (hh ▸ List.getElem_mem hk), by omega, rfl, hb⟩
theorem last_at (h : Txt s rs) (hn : 65533 ∉ rs) (I : Inp w b s) (hcap : s.size ≤ cap) (hsz : s.size ≤ 9223372036854775807) {k : Nat} (hk : k < rs.length) :
    Calls Tryd.prog 25 #[.slice (some ⟨b, 0, none⟩) (off rs (k + 1)) cap] w fun e w' => ∃ r d : Nat, r ≠ 65533 ∧ off rs k + d = off rs (k + 1) ∧ e = .returned (.tuple #[.int .i32 r, .int .i64 d]) ∧ Below w.heap.size w w' := by
  have hl := off_lt h.vs hk
  have hz := h.off_le (k := k + 1) (by omega)
  have e : (s.extract 0 (off rs (k + 1))).size = off rs (k + 1) := by rw [ByteArray.size_extract]; omega
  have c := Tryd.utf8_DecodeLastRune (s.extract 0 (off rs (k + 1))) b 0 cap w (by omega) (I.part _ _ hz) (by omega) I.tab
  rw [e, h.decLast hk] at c
  refine c.mono ?_
  rintro e w' ⟨rfl, hb⟩
  exact ⟨rs[k], off rs (k + 1) - off rs k, fun hh => hn (hh ▸ List.getElem_mem hk), by omega, rfl, hb⟩
theorem iter_below (w : World) (t : ByteArray) (pos : Nat) : Below w.heap.size w (w.iter t pos) := (Below.refl _ _).alloc (Nat.le_refl _) _
theorem count_at (h : Txt s rs) (I : Inp w b s) (hcap : s.size ≤ cap) (hsz : s.size < 9223372036854775807) {i j : Nat} (hij : i ≤ j) (hj : j ≤ rs.length) (len : Nat) (hlen : len = off rs j - off rs i) :
    Calls Tryd.prog 26 #[.slice (some ⟨b, off rs i, none⟩) len (cap - off rs i)] w fun e w' => e = .returned (.int .i64 ((j - i : Nat) : Int)) ∧ Below w.heap.size w w' := by
  have hz := h.off_le hj
  have hm := off_mono h.vs hij hj
  have e : (s.extract (off rs i) (off rs j)).size = len := by rw [ByteArray.size_extract]; omega
  have c := Tryd.utf8_RuneCount (s.extract (off rs i) (off rs j)) b (off rs i) (cap - off rs i) w (by omega) (I.part _ _ hz) (by omega)
  rw [e, h.count hij hj] at c
  refine c.mono ?_
  rintro e w' ⟨rfl, rfl | ⟨t, pos, rfl⟩⟩
  · exact ⟨rfl, Below.refl _ _⟩
  · exact ⟨rfl, iter_below _ _ _⟩
end
end Go.Proofs.YtbfelpgojgaeoaaDoor
