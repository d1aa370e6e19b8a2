/- The cells of a block from its beginning on; a cell behind a store elsewhere. -/
import Derived.Test.YtbfelpgojgaeoaaDoorLib
set_option linter.unusedVariables false
set_option linter.unusedSimpArgs false
namespace Go.Proofs.YtbfelpgojgaeoaaDoor
open Go.RowKit

def RowAt (w : World) (p : Nat) (cs : Array Value) : Prop := ∀ i x, cs[i]? = some x → w.cell? ⟨p, i, none⟩ = some x
theorem RowAt.new (w : World) (cs : Array Value) (t : TypeId) : RowAt (w.alloc (.cells cs t)) w.heap.size cs := by
  intro i x hx; unfold World.cell?; rw [heap_alloc_new]; exact hx
theorem RowAt.below {w w' : World} {p : Nat} {cs : Array Value} (h : RowAt w p cs) (hb : Below w.heap.size w w') : RowAt w' p cs :=
  fun i x hx => cell_below hb (World.block_lt_of_cell? w _ (h i x hx)) (h i x hx)
theorem rowBelow {w w1 : World} {p : Nat} {cs : Array Value} (hb : Below w.heap.size w w1) (h : RowAt w p cs) : RowAt w1 p cs := h.below hb
theorem cell_other {w : World} {a c i j : Nat} {v y : Value} (h : a ≠ c) (hc : w.cell? ⟨a, i, none⟩ = some v) : (w.setCell ⟨c, j, none⟩ y).cell? ⟨a, i, none⟩ = some v := by
  rw [World.cell?_setCell_other _ _ _ _ (by intro e; exact h (by injection e with e1; exact e1.symm))]; exact hc
theorem rowDrew {w : World} {p : Nat} {cs : Array Value} (h : RowAt w p cs) (n : Nat) : RowAt (w.drewN n) p cs := h
theorem RowAt.other {w : World} {p c j : Nat} {cs : Array Value} {y : Value} (h : RowAt w p cs) (hn : p ≠ c) : RowAt (w.setCell ⟨c, j, none⟩ y) p cs :=
  fun i x hx => cell_other hn (h i x hx)
theorem belowRow {w w1 : World} {a i : Nat} {v : Value} (hb : Below w.heap.size w w1) (h : w.cell? ⟨a, i, none⟩ = some v) : w1.cell? ⟨a, i, none⟩ = some v :=
  cell_below hb (World.block_lt_of_cell? w _ h) h

/-- Four cells of a block laid anew. -/
def set4 (w : World) (A : Nat) (y0 y1 y2 y3 : Value) : World := (((w.setCell ⟨A, 0, none⟩ y0).setCell ⟨A, 1, none⟩ y1).setCell ⟨A, 2, none⟩ y2).setCell ⟨A, 3, none⟩ y3
theorem cell_off {w : World} {A i j : Nat} (h : i ≠ j) (y : Value) : (w.setCell ⟨A, j, none⟩ y).cell? ⟨A, i, none⟩ = w.cell? ⟨A, i, none⟩ :=
  World.cell?_setCell_other _ _ _ _ (by intro e; exact h (by injection e with e1 e2; exact e2.symm))
theorem set4_row {w : World} {A : Nat} {x0 x1 x2 x3 : Value} (h : RowAt w A #[x0, x1, x2, x3]) (y0 y1 y2 y3 : Value) : RowAt (set4 w A y0 y1 y2 y3) A #[y0, y1, y2, y3] := by
  have k0 : w.cell? ⟨A, 0, none⟩ = some x0 := h 0 _ rfl
  have k1 : w.cell? ⟨A, 1, none⟩ = some x1 := h 1 _ rfl
  have k2 : w.cell? ⟨A, 2, none⟩ = some x2 := h 2 _ rfl
  have k3 : w.cell? ⟨A, 3, none⟩ = some x3 := h 3 _ rfl
  intro i x hx
  unfold set4
  match i, hx with
  | 0, hx => obtain rfl : y0 = x := by simpa using hx
             rw [cell_off (by omega), cell_off (by omega), cell_off (by omega)]; exact World.cell?_setCell_same _ _ _ k0
  | 1, hx => obtain rfl : y1 = x := by simpa using hx
             rw [cell_off (by omega), cell_off (by omega)]; exact World.cell?_setCell_same _ _ _ (by rw [cell_off (by omega)]; exact k1)
  | 2, hx => obtain rfl : y2 = x := by simpa using hx
             rw [cell_off (by omega)]; exact World.cell?_setCell_same _ _ _ (by rw [cell_off (by omega), cell_off (by omega)]; exact k2)
  | 3, hx => obtain rfl : y3 = x := by simpa using hx
             exact World.cell?_setCell_same _ _ _ (by rw [cell_off (by omega), cell_off (by omega), cell_off (by omega)]; exact k3)
  | i + 4, hx => simp at hx
theorem set4_frozen {w : World} {A : Nat} (y0 y1 y2 y3 : Value) (p : Addr) : (set4 w A y0 y1 y2 y3).frozen? p = w.frozen? p := by
  unfold set4; rw [World.frozen?_setCell, World.frozen?_setCell, World.frozen?_setCell, World.frozen?_setCell]
theorem set4_below {w0 w : World} {B A : Nat} (h : Below B w0 w) (hA : B ≤ A) (y0 y1 y2 y3 : Value) : Below B w0 (set4 w A y0 y1 y2 y3) :=
  (((h.setCell (p := ⟨A, 0, none⟩) (by simpa using hA) y0).setCell (p := ⟨A, 1, none⟩) (by simpa using hA) y1).setCell (p := ⟨A, 2, none⟩) (by simpa using hA) y2).setCell (p := ⟨A, 3, none⟩) (by simpa using hA) y3

/-- Blocks made one behind the other. -/
def allocs (w : World) : List Obj → World
  | [] => w
  | o :: r => allocs (w.alloc o) r
theorem allocs_below : ∀ (l : List Obj) (w : World) (B : Nat), B ≤ w.heap.size → Below B w (allocs w l)
  | [], w, B, _ => Below.refl _ _
  | o :: r, w, B, h => ((Below.refl _ _).alloc h o).trans (allocs_below r (w.alloc o) B (by simp; omega))
theorem allocs_size : ∀ (l : List Obj) (w : World), (allocs w l).heap.size = w.heap.size + l.length
  | [], w => rfl
  | o :: r, w => by have := allocs_size r (w.alloc o); simp only [allocs, List.length_cons]; simp at this; omega
theorem allocs_at : ∀ (l : List Obj) (w : World) (i : Nat), i < l.length → (allocs w l).heap[w.heap.size + i]? = l[i]?
  | [], w, i, h => by simp at h
  | o :: r, w, 0, _ => by
    have h := (allocs_below r (w.alloc o) (w.alloc o).heap.size (Nat.le_refl _)).block w.heap.size (by simp)
    simp only [allocs, Nat.add_zero, List.getElem?_cons_zero]
    rw [h]; exact heap_alloc_new _ _
  | o :: r, w, i + 1, h => by
    have h' := allocs_at r (w.alloc o) i (by simpa using h)
    simp only [allocs, List.getElem?_cons_succ]
    rw [← h']
    congr 1
    simp; omega
theorem allocs_one {l : List Obj} {w : World} {i b : Nat} {x : Value} {t : TypeId} (h : l[i]? = some (.cells #[x] t)) (hb : b = w.heap.size + i) : One (allocs w l) b x := by
  subst hb
  have ha := allocs_at l w i (List.getElem?_eq_some_iff.1 h).1
  rw [h] at ha
  exact ⟨by simp [World.cell?, ha], by simp [World.frozen?, ha]⟩
theorem allocs_row {l : List Obj} {w : World} {i b : Nat} {cs : Array Value} {t : TypeId} {f : Nat × Nat} (h : l[i]? = some (.cells cs t f)) (hb : b = w.heap.size + i) : RowAt (allocs w l) b cs := by
  subst hb
  have ha := allocs_at l w i (List.getElem?_eq_some_iff.1 h).1
  rw [h] at ha
  intro j x hx
  simp [World.cell?, ha, hx]
end Go.Proofs.YtbfelpgojgaeoaaDoor
