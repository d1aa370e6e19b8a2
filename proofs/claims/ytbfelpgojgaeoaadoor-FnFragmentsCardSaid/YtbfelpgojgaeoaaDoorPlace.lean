/- Plain law: pairs that lie in a text in order, whole ones: where they lie, in code points. -/
import Derived.Test.YtbfelpgojgaeoaaDoorOrdered
import Derived.Test.YtbfelpgojgaeoaaDoorFragSome
set_option linter.unusedVariables false
set_option linter.unusedSimpArgs false
namespace Go.Proofs.YtbfelpgojgaeoaaDoor
open Go.RowKit

theorem ord_in (size : Int) : ∀ (xs : List (Int × Int)) (last : Int), ordB size last xs = true → ∀ j (h : j < xs.length), xs[j].1 ≤ xs[j].2 → last ≤ xs[j].1 ∧ xs[j].1 < xs[j].2 ∧ xs[j].2 ≤ size
  | [], _, _, j, h, _ => by simp at h
  | (a, b) :: r, last, ho, j, h, hle => by
    rw [ordB_cons] at ho
    by_cases h1 : b < a
    · rw [if_pos h1] at ho
      cases j with
      | zero => exact absurd hle (by show ¬ a ≤ b; omega)
      | succ j => exact ord_in size r last ho j (by simpa using h) hle
    · rw [if_neg h1] at ho
      by_cases h2 : a < last ∨ a = b ∨ size < b
      · rw [if_pos h2] at ho; cases ho
      · rw [if_neg h2] at ho
        cases j with
        | zero => exact ⟨by show last ≤ a; omega, by show a < b; omega, by show b ≤ size; omega⟩
        | succ j =>
          obtain ⟨g1, g2, g3⟩ := ord_in size r b ho j (by simpa using h) hle
          have g0 : last ≤ b := by omega
          exact ⟨Int.le_trans g0 g1, g2, g3⟩
theorem ord_up (size : Int) : ∀ (xs : List (Int × Int)) (last : Int), ordB size last xs = true → (∀ j (h : j < xs.length), xs[j].1 ≤ xs[j].2) → ∀ j (h : j + 1 < xs.length), xs[j].2 ≤ xs[j + 1].1
  | [], _, _, _, j, h => by simp at h
  | (a, b) :: r, last, ho, hle, j, h => by
    rw [ordB_cons] at ho
    have h0 : a ≤ b := hle 0 (by simp)
    rw [if_neg (by omega)] at ho
    by_cases h2 : a < last ∨ a = b ∨ size < b
    · rw [if_pos h2] at ho; cases ho
    · rw [if_neg h2] at ho
      have hr : ∀ j (h : j < r.length), r[j].1 ≤ r[j].2 := fun j h => hle (j + 1) (by simpa using h)
      cases j with
      | zero =>
        have hl : 0 < r.length := by simpa using h
        exact (ord_in size r b ho 0 hl (hr 0 hl)).1
      | succ j => exact ord_up size r b ho hr j (by simpa using h)

/-- A pair is whole: it does not stand for nil, and it cuts the text between code points. -/
def Whole2 (s : ByteArray) (x : Int × Int) : Prop := x.1 ≤ x.2 ∧ Lib.validD (s.extract 0 x.1.toNat).data.toList = true ∧ Lib.validD (s.extract x.1.toNat x.2.toNat).data.toList = true

theorem place_one {s : ByteArray} {rs : List Nat} (h : Txt s rs) {a b : Int} (h0 : 0 ≤ a) (h1 : a < b) (h2 : b ≤ s.size) (hw : Whole2 s (a, b)) :
    ∃ p : Nat × Nat, a = (off rs p.1 : Int) ∧ b = (off rs p.2 : Int) ∧ p.1 < p.2 ∧ p.2 ≤ rs.length := by
  obtain ⟨hle, v1, v2⟩ := hw
  obtain ⟨A, rfl⟩ := Int.eq_ofNat_of_zero_le h0
  obtain ⟨B, rfl⟩ := Int.eq_ofNat_of_zero_le (show 0 ≤ b by omega)
  simp only [Int.toNat_natCast] at v1 v2
  obtain ⟨i, _, hi, e1⟩ := h.place (i := 0) (b := A) (Nat.zero_le _) (by rw [off_zero]; omega) (by omega) (by rw [off_zero]; exact v1)
  rw [e1] at v2
  obtain ⟨j, hij, hj, e2⟩ := h.place (i := i) (b := B) hi (by omega) (by omega) v2
  refine ⟨(i, j), by rw [e1], by rw [e2], ?_, hj⟩
  show i < j
  rw [← off_lt_iff h.vs hi hj]; omega

theorem places {s : ByteArray} {rs : List Nat} (h : Txt s rs) (xs : List (Int × Int)) (ho : ordB s.size 0 xs = true) (hw : ∀ j (h : j < xs.length), Whole2 s xs[j]) :
    ∃ st en : Nat → Nat, InOrder xs.length rs.length st en ∧ ∀ i (h : i < xs.length), xs[i] = ((off rs (st i) : Int), (off rs (en i) : Int)) ∧ off rs (st i) ≤ off rs (en i) ∧ off rs (en i) ≤ s.size := by
  have hle : ∀ j (h : j < xs.length), xs[j].1 ≤ xs[j].2 := fun j h => (hw j h).1
  have h1 : ∀ i, ∃ p : Nat × Nat, ∀ hi : i < xs.length, xs[i].1 = (off rs p.1 : Int) ∧ xs[i].2 = (off rs p.2 : Int) ∧ p.1 < p.2 ∧ p.2 ≤ rs.length := by
    intro i
    by_cases hi : i < xs.length
    · obtain ⟨g1, g2, g3⟩ := ord_in s.size xs 0 ho i hi (hle i hi)
      obtain ⟨p, hp⟩ := place_one h g1 g2 g3 (hw i hi)
      exact ⟨p, fun _ => hp⟩
    · exact ⟨(0, 0), fun hi' => absurd hi' hi⟩
  refine ⟨fun i => (Classical.choose (h1 i)).1, fun i => (Classical.choose (h1 i)).2, ⟨?_, ?_⟩, ?_⟩
  · intro i hi
    obtain ⟨_, _, g3, g4⟩ := Classical.choose_spec (h1 i) hi
    exact ⟨g3, g4⟩
  · intro i hi
    obtain ⟨_, g2, g3, g4⟩ := Classical.choose_spec (h1 i) (by omega)
    obtain ⟨k1, k2, k3, k4⟩ := Classical.choose_spec (h1 (i + 1)) hi
    have hu := ord_up s.size xs 0 ho hle i hi
    rw [g2, k1] at hu
    show (Classical.choose (h1 i)).2 ≤ (Classical.choose (h1 (i + 1))).1
    rw [← off_le_iff h.vs g4 (by omega)]
    omega
  · intro i hi
    obtain ⟨g1, g2, g3, g4⟩ := Classical.choose_spec (h1 i) hi
    refine ⟨?_, off_mono h.vs (Nat.le_of_lt g3) g4, h.off_le g4⟩
    rw [← g1, ← g2]

/-- What a good fragment passes. -/
theorem Good.off {s : ByteArray} {rs : List Nat} (h : Txt s rs) {size S E x y : Nat} (hS : S < E) (hE : E ≤ rs.length) (hg : Good size rs.length S E x y) :
    x ≤ y ∧ y ≤ rs.length ∧ y - x ≤ size ∧ off rs x ≤ off rs S ∧ (off rs y < off rs E → size < E - S) := by
  obtain ⟨h1, h2, h3, h4, h5⟩ := hg
  refine ⟨h1, h2, h3, off_mono h.vs h4 (by omega), ?_⟩
  intro hlt
  rw [off_lt_iff h.vs h2 hE] at hlt
  by_cases hh : E - S ≤ size
  · have := h5 hh; omega
  · omega
end Go.Proofs.YtbfelpgojgaeoaaDoor
