/- The contract of the fragmenter's Fragment at terms between code points, in order: each one's fragment. -/
import Derived.Test.YtbfelpgojgaeoaaDoorFragNone
set_option linter.unusedVariables false
set_option linter.unusedSimpArgs false
namespace Go.Proofs.YtbfelpgojgaeoaaDoor
open Go.RowKit

theorem ownBelow {w w' : World} {B e size n : Nat} {v : Value} {xs : List Value} (h : w.ownsRow B e size v n xs) (hb : Below w.heap.size w w') : w'.ownsRow B e size v n xs := by
  refine ⟨h.1, h.2.imp_right ?_⟩
  rintro ⟨g, cap, cur, hv, hB, hg, hr⟩
  exact ⟨g, cap, cur, hv, hB, by rw [hb.block g (by rcases Nat.lt_or_ge g w.heap.size with hl | hl; exact hl; rw [Array.getElem?_eq_none hl] at hg; cases hg)]; exact hg, hr⟩

def ptrOf (x : Nat × Nat × Nat) : Value := .pointer (some ⟨x.1, 0, none⟩)
/-- The fragments so far: a block, where it begins and ends (as numbers of code points). -/
structure RW (w0 : World) (b n cap : Nat) (rs : List Nat) (fs : List (Nat × Nat × Nat)) (v : Value) (w : World) : Prop where
  bel : Below w0.heap.size w0 w
  own : w.ownsRow w0.heap.size 46 1 v fs.length (fs.map ptrOf)
  row : ∀ x ∈ fs, RowAt w x.1 (fragCells b n cap (off rs x.2.1) (off rs x.2.2)) ∧ v.ownBlock ≠ some x.1
theorem RowAt.lt {w : World} {p : Nat} {cs : Array Value} (h : RowAt w p cs) (h0 : 0 < cs.size) : p < w.heap.size :=
  World.block_lt_of_cell? w _ (h 0 _ (Array.getElem?_eq_getElem h0))
section
variable {w0 w w1 : World} {b n cap : Nat} {rs : List Nat} {fs : List (Nat × Nat × Nat)} {v : Value}
theorem RW.step (h : RW w0 b n cap rs fs v w) (hb : Below w.heap.size w w1) : RW w0 b n cap rs fs v w1 :=
  ⟨h.bel.trans (hb.mono h.bel.size), ownBelow h.own hb, fun x hx => ⟨(h.row x hx).1.below hb, (h.row x hx).2⟩⟩
theorem own_lt (h : RW w0 b n cap rs fs v w) {g : Nat} (hg : v.ownBlock = some g) : g < w.heap.size ∧ w0.heap.size ≤ g := by
  rcases h.own.2 with ⟨hv, _⟩ | ⟨g', cap', cur, hv, hB, hh, _⟩
  · rw [hv] at hg; simp [Value.ownBlock] at hg
  · rw [hv] at hg
    have : g' = g := by simpa [Value.ownBlock] using hg
    subst this
    refine ⟨?_, hB⟩
    rcases Nat.lt_or_ge g' w.heap.size with hl | hl
    · exact hl
    · rw [Array.getElem?_eq_none hl] at hh; cases hh
theorem RW.push (h : RW w0 b n cap rs fs v w) (x y : Nat) {g gc : Nat} {w2 : World} {t1 t2 : TypeId}
    (hown : w2.ownsRow w0.heap.size 46 1 (.slice (some ⟨g, 0, none⟩) (fs.length + 1) gc) (fs.length + 1) (fs.map ptrOf ++ [.pointer (some ⟨w.heap.size, 0, none⟩)]))
    (hgrow : ((w.alloc (.cells (fragCells b n cap (off rs x) (off rs y)) t1)).alloc (.cells #[.pointer (some ⟨w.heap.size, 0, none⟩)] t2)).grownBy w2 v.ownBlock)
    (hat : v.ownBlock = some g ∨ g = w.heap.size + 2) : RW w0 b n cap rs (fs ++ [(w.heap.size, x, y)]) (.slice (some ⟨g, 0, none⟩) (fs.length + 1) gc) w2 := by
  have hb2 : Below w.heap.size w ((w.alloc (.cells (fragCells b n cap (off rs x) (off rs y)) t1)).alloc (.cells #[.pointer (some ⟨w.heap.size, 0, none⟩)] t2)) :=
    ((Below.refl _ _).alloc (Nat.le_refl _) _).alloc (by simp) _
  have hsz : ((w.alloc (.cells (fragCells b n cap (off rs x) (off rs y)) t1)).alloc (.cells #[.pointer (some ⟨w.heap.size, 0, none⟩)] t2)).heap.size = w.heap.size + 2 := by simp
  have hnew : RowAt ((w.alloc (.cells (fragCells b n cap (off rs x) (off rs y)) t1)).alloc (.cells #[.pointer (some ⟨w.heap.size, 0, none⟩)] t2)) w.heap.size (fragCells b n cap (off rs x) (off rs y)) :=
    (RowAt.new w _ _).below ((Below.refl _ _).alloc (Nat.le_refl _) _)
  have hf : ∀ p (cs : Array Value), p < w.heap.size + 2 → v.ownBlock ≠ some p → RowAt ((w.alloc (.cells (fragCells b n cap (off rs x) (off rs y)) t1)).alloc (.cells #[.pointer (some ⟨w.heap.size, 0, none⟩)] t2)) p cs → RowAt w2 p cs := by
    intro p cs hp hv hr i z hz
    rw [hgrow.cell_far ⟨p, i, none⟩ (by rw [hsz]; exact hp) (Ne.symm hv)]
    exact hr i z hz
  refine ⟨?_, ?_, ?_⟩
  · refine ((h.bel.trans (hb2.mono h.bel.size))).grown hgrow (by have := h.bel.size; have := hb2.size; omega) ?_
    intro k hk
    exact (own_lt h hk).2
  · rw [List.length_append, List.map_append]; exact hown
  · intro z hz
    rcases List.mem_append.1 hz with hz | hz
    · obtain ⟨h1, h2⟩ := h.row z hz
      have hlt := h1.lt (by simp [fragCells])
      refine ⟨hf _ _ (by omega) h2 (h1.below hb2), ?_⟩
      rcases hat with hat | hat
      · rw [hat] at h2; exact h2
      · intro he; have : g = z.1 := by simpa [Value.ownBlock] using he
        omega
    · have hz : z = (w.heap.size, x, y) := by simpa using hz
      subst hz
      have hvn : v.ownBlock ≠ some w.heap.size := fun he => by have := (own_lt h he).1; omega
      refine ⟨hf _ _ (by simp) hvn hnew, ?_⟩
      intro he
      have : g = w.heap.size := by simpa [Value.ownBlock] using he
      rcases hat with hat | hat
      · rw [hat] at hvn; exact hvn (by rw [this])
      · omega
end

/-- The locations of terms lie in blocks. -/
structure Locs (w : World) (lb m : Nat) (ps : Nat → Nat) (rs : List Nat) (st en : Nat → Nat) : Prop where
  cell : ∀ i, i < m → w.cell? ⟨lb, i, none⟩ = some (.pointer (some ⟨ps i, 0, none⟩))
  row : ∀ i, i < m → RowAt w (ps i) (locRow (off rs (st i)) (off rs (en i)))
theorem Locs.below {w w1 : World} {lb m : Nat} {ps : Nat → Nat} {rs : List Nat} {st en : Nat → Nat} (h : Locs w lb m ps rs st en) (hb : Below w.heap.size w w1) : Locs w1 lb m ps rs st en :=
  ⟨fun i hi => belowRow hb (h.cell i hi), fun i hi => (h.row i hi).below hb⟩
/-- They stand in order. -/
structure InOrder (m n : Nat) (st en : Nat → Nat) : Prop where
  le : ∀ i, i < m → st i < en i ∧ en i ≤ n
  up : ∀ i, i + 1 < m → en i ≤ st (i + 1)
def mb (en : Nat → Nat) (i : Nat) : Nat := if i = 0 then 0 else en (i - 1)
theorem InOrder.mb_le {m n : Nat} {st en : Nat → Nat} (h : InOrder m n st en) {i : Nat} (hi : i < m) : mb en i ≤ st i := by
  unfold mb
  split
  · omega
  · have := h.up (i - 1) (by omega); rw [show i - 1 + 1 = i by omega] at this; exact this
/-- What is asked of a term's fragment. -/
def Good (size n : Nat) (S E : Nat) (x y : Nat) : Prop := x ≤ y ∧ y ≤ n ∧ y - x ≤ size ∧ x ≤ S ∧ (E - S ≤ size → E ≤ y)
end Go.Proofs.YtbfelpgojgaeoaaDoor
