/- A slice of texts, opened. -/
import Derived.Test.YtaohmmpfiehniaaFirsts
import Derived.Test.YtaohmmpfiehniaaFrame
import Derived.SliceStrings
set_option linter.unusedVariables false
set_option linter.unusedSimpArgs false
namespace Go.Proofs.Ytaohmmpfiehniaa
open Go.ChangeShapes Go.WideShapes Go.ChangeAt Go.RowKit

theorem open_strs {H : Type} {enc : TypeId × Value → H} {W : World} {base b0 : Nat} {spare : Nat → Bool} {held : Bool} {r : Reach} {v : Value} {d : DataW H} {p : List MemPlace}
    (hval : Value.okWide Try.prog W r b0 30 v) (h : DataW.Trod enc Try.prog W base spare held 30 v d p) : ∃ ad tcap ss, v = .slice ad (ss : List ByteArray).length tcap ∧ StrsAt W ad ss := by
  obtain ⟨a0, n0, c0, rfl⟩ := okWide_slice Try.underlying30 hval
  obtain ⟨fuel, hf⟩ := h
  have hc : Try.prog.cellsOf 9 = 1 := by kernel_rfl
  rcases open_strings Try.underlying30 Try.underlying9 hc hf with ⟨hcs, _⟩ | ⟨a, len, cap, ss, hcs, _, hl, hm, hz, _, hcell, _⟩
  · have e : a0 = none ∧ n0 = 0 ∧ c0 = 0 := by simpa [Value.cells] using hcs
    obtain ⟨rfl, rfl, rfl⟩ := e
    exact ⟨none, 0, [], rfl, fun i hi => by simp at hi⟩
  · have e : a0 = some a ∧ n0 = len ∧ c0 = cap := by simpa [Value.cells] using hcs
    obtain ⟨rfl, rfl, rfl⟩ := e
    have hle : n0 ≤ ss.length := by rw [hz]; split <;> omega
    have hlen : (ss.take n0).length = n0 := by rw [List.length_take]; omega
    refine ⟨some a, c0, ss.take n0, by rw [hlen], fun i hi => ?_⟩
    have hi' : i < ss.length := by omega
    obtain ⟨b, off, spot⟩ := a
    have hspot : spot = none := by simpa [Addr.add] using World.cell?_spot (hcell 0 (by omega))
    subst hspot
    refine ⟨b, off, rfl, ?_⟩
    have := hcell i hi'
    rw [Go.WideShapes.add_plain] at this
    rw [this]
    have hin : i < n0 := by omega
    simp [List.getD, hi', hin]
end Go.Proofs.Ytaohmmpfiehniaa
