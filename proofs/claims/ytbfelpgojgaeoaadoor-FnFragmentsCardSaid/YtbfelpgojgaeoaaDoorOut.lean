/- Pairs that a closure appends to a result in a cell of its own. -/
import Derived.Test.YtbfelpgojgaeoaaDoorPairs
set_option linter.unusedVariables false
set_option linter.unusedSimpArgs false
namespace Go.Proofs.YtbfelpgojgaeoaaDoor
open Go.RowKit

def flatP (ps : List (Int × Int)) : List Value := ps.flatMap fun p => [.int .i64 p.1, .int .i64 p.2]
theorem flatP_app (ps : List (Int × Int)) (x y : Int) : flatP (ps ++ [(x, y)]) = flatP ps ++ [.int .i64 x, .int .i64 y] := by simp [flatP]
theorem flatP_get : ∀ (ps : List (Int × Int)) (i : Nat) (h : i < ps.length), (flatP ps)[i * 2]? = some (.int .i64 ps[i].1) ∧ (flatP ps)[i * 2 + 1]? = some (.int .i64 ps[i].2)
  | [], i, h => by simp at h
  | p :: ps, 0, _ => ⟨rfl, rfl⟩
  | p :: ps, i + 1, h => by
    have ih := flatP_get ps i (by simpa using h)
    have e : flatP (p :: ps) = .int .i64 p.1 :: .int .i64 p.2 :: flatP ps := rfl
    rw [e, show (i + 1) * 2 = i * 2 + 2 by omega]
    exact ih

/-- Behind a world: nothing has turned but one cell, which holds the pairs so far, in a block of their own. -/
structure OutW (w1 : World) (a3 : Nat) (ps : List (Int × Int)) (v : Value) (w : World) : Prop where
  os : w.os = w1.os
  tape : w.tape = w1.tape
  output : w.output = w1.output
  size : w1.heap.size ≤ w.heap.size
  heap : ∀ k, k < w1.heap.size → k ≠ a3 → w.heap[k]? = w1.heap[k]?
  one : One w a3 v
  own : w.ownsRow w1.heap.size 26 2 v ps.length (flatP ps)

theorem ownSame {w w' : World} {B e size n : Nat} {v : Value} {xs : List Value} (h : w.ownsRow B e size v n xs) (hb : ∀ g, v.ownBlock = some g → w'.heap[g]? = w.heap[g]?) : w'.ownsRow B e size v n xs := by
  refine ⟨h.1, h.2.imp_right ?_⟩
  rintro ⟨g, cap, cur, hv, hB, hg, hr⟩
  exact ⟨g, cap, cur, hv, hB, by rw [hb g (by rw [hv]; rfl)]; exact hg, hr⟩
section
variable {w1 w : World} {a3 : Nat} {ps : List (Int × Int)} {v : Value}
theorem OutW.start (h : One w1 a3 (.slice none 0 0)) : OutW w1 a3 [] (.slice none 0 0) w1 :=
  ⟨rfl, rfl, rfl, Nat.le_refl _, fun _ _ _ => rfl, h, World.ownsRow_nil _ _ _ _⟩
theorem OutW.cell (h : OutW w1 a3 ps v w) {p i : Nat} {u : Value} (hc : w1.cell? ⟨p, i, none⟩ = some u) (hne : p ≠ a3) : w.cell? ⟨p, i, none⟩ = some u := by
  rw [World.cell?_of_block (w := w1) (w' := w) (a := ⟨p, i, none⟩) (h.heap p (World.block_lt_of_cell? w1 _ hc) hne)]; exact hc
theorem OutW.drewN (h : OutW w1 a3 ps v w) (n : Nat) : OutW w1 a3 ps v (w.drewN n) := ⟨h.os, h.tape, h.output, h.size, h.heap, h.one.drewN n, h.own⟩
theorem OutW.own_lt (h : OutW w1 a3 ps v w) {g : Nat} (hg : v.ownBlock = some g) : g < w.heap.size ∧ w1.heap.size ≤ g := by
  rcases h.own.2 with ⟨hv, _⟩ | ⟨g', cap', cur, hv, hB, hh, _⟩
  · rw [hv] at hg; simp [Value.ownBlock] at hg
  · rw [hv] at hg
    have : g' = g := by simpa [Value.ownBlock] using hg
    subst this
    refine ⟨?_, hB⟩
    rcases Nat.lt_or_ge g' w.heap.size with hl | hl
    · exact hl
    · rw [Array.getElem?_eq_none hl] at hh; cases hh
theorem OutW.grown (h : OutW w1 a3 ps v w) (h3 : a3 < w1.heap.size) (o : Obj) {w3 : World} (hg : (w.alloc o).grownBy w3 v.ownBlock) : One w3 a3 v := by
  have hb : w3.heap[a3]? = w.heap[a3]? := by
    rw [hg.block a3 (by have := h.size; simp; omega) (fun e => by have := (h.own_lt e.symm).2; omega)]
    exact ((Below.refl _ w).alloc (Nat.le_refl _) o).block a3 (by have := h.size; omega)
  exact ⟨(World.cell?_of_block (w := w) (w' := w3) (a := ⟨a3, 0, none⟩) hb).trans h.one.cell, (World.frozen?_of_block (w := w) (w' := w3) (a := ⟨a3, 0, none⟩) hb).trans h.one.free⟩
theorem OutW.facts (h : OutW w1 a3 ps v w) (x y : Int) :
    (w.alloc (.cells #[.int .i64 x, .int .i64 y] 26)).ownsRow w1.heap.size 26 2 v ps.length (flatP ps) ∧
      (∀ j u, [Value.int .i64 x, .int .i64 y][j]? = some u → (w.alloc (.cells #[.int .i64 x, .int .i64 y] 26)).cell? ((⟨w.heap.size, 0, none⟩ : Addr).add j) = some u) ∧
      (∀ u ∈ [Value.int .i64 x, .int .i64 y], u.oneCell' = true) ∧ w1.heap.size ≤ (w.alloc (.cells #[.int .i64 x, .int .i64 y] 26)).heap.size := by
  refine ⟨h.own.alloc _, World.news_of_block (heap_alloc_new w (.cells #[.int .i64 x, .int .i64 y] 26)), ?_, ?_⟩
  · intro u hu
    simp only [List.mem_cons, List.not_mem_nil, or_false] at hu
    rcases hu with rfl | rfl <;> rfl
  · have := h.size; simp; omega
theorem OutW.push (h : OutW w1 a3 ps v w) (h3 : a3 < w1.heap.size) (x y : Int) {g gc : Nat} {w3 : World}
    (hown : w3.ownsRow w1.heap.size 26 2 (.slice (some ⟨g, 0, none⟩) (ps.length + 1) gc) (ps.length + 1) (flatP ps ++ [.int .i64 x, .int .i64 y]))
    (hg : (w.alloc (.cells #[.int .i64 x, .int .i64 y] 26)).grownBy w3 v.ownBlock) :
    OutW w1 a3 (ps ++ [(x, y)]) (.slice (some ⟨g, 0, none⟩) (ps.length + 1) gc) (w3.setCell ⟨a3, 0, none⟩ (.slice (some ⟨g, 0, none⟩) (ps.length + 1) gc)) := by
  have ho := h.grown h3 _ hg
  have hsz : (w3.setCell ⟨a3, 0, none⟩ (.slice (some ⟨g, 0, none⟩) (ps.length + 1) gc)).heap.size = w3.heap.size := by simp [World.setCell]
  have hb := (Below.refl w.heap.size w).alloc (Nat.le_refl _) (.cells #[.int .i64 x, .int .i64 y] 26)
  have hge : w1.heap.size ≤ g := by
    rcases hown.2 with ⟨hv, _⟩ | ⟨g', cap', cur, hv, hB, hh, _⟩
    · cases hv
    · injection hv with e1
      injection e1 with e1
      injection e1 with e1
      subst e1
      exact hB
  refine ⟨hg.os.trans h.os, hg.tape.trans h.tape, hg.output.trans h.output, ?_, ?_, ho.set _, ?_⟩
  · rw [hsz]; have := hg.size; have := h.size; simp at *; omega
  · intro k hk hne
    rw [Below.heap_setCell _ _ _ _ (by simpa using hne), hg.block k (by have := h.size; simp; omega) (fun e => by have := (h.own_lt e.symm).2; omega), hb.block k (by have := h.size; omega)]
    exact h.heap k hk hne
  · rw [List.length_append, flatP_app]
    refine ownSame hown ?_
    intro g' hg'
    have : g = g' := by simpa [Value.ownBlock] using hg'
    exact Below.heap_setCell _ _ _ _ (by simp; omega)
theorem OutW.pairs (h : OutW w1 a3 ps v w) {g gc : Nat} (hv : v = .slice (some ⟨g, 0, none⟩) ps.length gc) : PairsAt w g 0 ps := by
  have hown := h.own
  rw [hv] at hown
  intro i hi
  have hl := hown.1
  have c1 := hown.cellAt (i * 2) (by omega)
  have c2 := hown.cellAt (i * 2 + 1) (by omega)
  obtain ⟨g1, g2⟩ := flatP_get ps i hi
  rw [g1] at c1
  rw [g2] at c2
  exact ⟨by rw [Nat.zero_add]; exact c1, by rw [Nat.zero_add]; exact c2⟩
theorem OutW.shape (h : OutW w1 a3 ps v w) : (ps.length = 0 ∧ v = .slice none 0 0) ∨ ∃ g gc, v = .slice (some ⟨g, 0, none⟩) ps.length gc ∧ w1.heap.size ≤ g := by
  obtain ⟨_, ⟨hz, hl⟩ | ⟨g', cap', cur, he, hB, _⟩⟩ := h.own
  · exact .inl ⟨hl, hz⟩
  · exact .inr ⟨g', cap', he, hB⟩
end
end Go.Proofs.YtbfelpgojgaeoaaDoor
