/- An array of two small numbers, taken by value, opened. -/
import Derived.Test.YtbfelpgojgaeoaaOverlaps
import Derived.Test.YtbfelpgojgaeoaaLawOverlaps
import Derived.ProofKit
import Derived.OpenShut
import Derived.Deep.DeepHandedRow
set_option linter.unusedVariables false
set_option linter.unusedSimpArgs false
namespace Go.Proofs.Ytbfelpgojgaeoaa
open Go.ChangeShapes Go.WideShapes Go.ChangeAt Go.RowKit

theorem laidOut : laidOutB Try.prog = true := by kernel_rfl
theorem own : ownKnob Try.prog.godebug = none := by kernel_rfl

theorem open_arr16 {H : Type} {enc : TypeId × Value → H} {W : World} {base b0 : Nat} {spare : Nat → Bool} {held : Bool} {r : Reach} {v : Value} {d : DataW H} {p : List MemPlace}
    (hval : Value.okWide Try.prog W r b0 23 v) (h : DataW.Trod enc Try.prog W base spare held 23 v d p) : ∃ a b, v = arr16 a b ∧ (-32768 ≤ a ∧ a ≤ 32767) ∧ (-32768 ≤ b ∧ b ≤ 32767) := by
  have hv : ∃ cs, v = .agg cs ∧ cs.size = Try.prog.cellsOf 23 := by
    simp only [Value.okWide, Try.underlying23] at hval
    obtain ⟨cs, h1, h2, _⟩ := hval
    exact ⟨cs, h1, h2⟩
  obtain ⟨cs, rfl, hsz⟩ := hv
  obtain ⟨fuel, hf⟩ := h
  have hc : Try.prog.cellsOf 23 = 2 := by kernel_rfl
  have c1 : Try.prog.cellsOf 22 = 1 := by kernel_rfl
  obtain ⟨xs, n, rfl, hx, hl, hxl, hi⟩ := DataW.trod_array Try.underlying23 hf
  rw [hc] at hsz
  obtain ⟨l⟩ := cs
  match l, hsz with
  | [v0, v1], _ =>
    have key : ∀ (i : Nat) (v : Value), [v0, v1][i]? = some v → i < 2 → ∃ a, v = .int .i16 a ∧ (-32768 ≤ a ∧ a ≤ 32767) := by
      intro i v hd hlt
      have hq := hi i hlt
      obtain ⟨y, hx'⟩ : ∃ y, xs[i]? = some y := ⟨_, List.getElem?_eq_getElem (by omega)⟩
      have hv : ((Value.agg ⟨[v0, v1]⟩).cells.toList.drop (i * 1)).take 1 = [v] := by
        show ([v0, v1].drop (i * 1)).take 1 = [v]
        rw [Nat.mul_one]
        have hlt' := (List.getElem?_eq_some_iff.1 hd).1
        rw [List.drop_eq_getElem_cons hlt']
        simp [(List.getElem?_eq_some_iff.1 hd).2]
      rw [c1, hv, hx'] at hq
      obtain ⟨a, h1, _, hw⟩ := DataW.trod_int Try.underlying22 hq
      exact ⟨a, by simpa using h1, bounds_i16 hw⟩
    obtain ⟨a, rfl, ha⟩ := key 0 v0 rfl (by omega)
    obtain ⟨b, rfl, hb⟩ := key 1 v1 rfl (by omega)
    exact ⟨a, b, rfl, ha, hb⟩
end Go.Proofs.Ytbfelpgojgaeoaa
