/- A slice of bytes among a row's arguments, opened. -/
import Derived.Test.YtkhmomagjkdcdaaDoorFrame
import Derived.Test.YtkhmomagjkdcdaaDoorValid
set_option linter.unusedVariables false
set_option linter.unusedSimpArgs false
namespace Go.Proofs.YtkhmomagjkdcdaaDoor
open Go.ChangeShapes Go.WideShapes Go.ChangeAt Go.RowKit

theorem cells5 : Tryd.prog.cellsOf 5 = 1 := by kernel_rfl
theorem bytes_of_open {H : Type} {enc : TypeId × Value → H} {W : World} {A : Option Addr} {n cap : Nat} {d : DataW H} {p : List MemPlace}
    (h : DataW.Trod enc Tryd.prog W 0 (fun _ => true) true 23 (.slice A n cap) d p) : ∃ l : List Int, n = l.length ∧ l.length ≤ 9223372036854775807 ∧ BytesIn W A l := by
  obtain ⟨fuel, hf⟩ := h
  rcases open_ints Tryd.underlying23 Tryd.underlying5 cells5 hf with ⟨hcs, hx⟩ | ⟨a, len', cap', zs, hcs, _, hl, hm, hz, hx, hcell, hwz⟩
  · simp [Value.cells] at hcs
    obtain ⟨rfl, rfl, rfl⟩ := hcs
    exact ⟨[], rfl, by simp, ⟨fun x hx => (List.not_mem_nil hx).elim, fun h => absurd h (by simp)⟩⟩
  · simp [Value.cells] at hcs
    obtain ⟨rfl, rfl, rfl⟩ := hcs
    simp only [if_true] at hz
    unfold maxLen at hm
    refine ⟨zs.take n, by simp; omega, by simp; omega, ⟨fun x hx => ?_, fun hp => ?_⟩⟩
    · have := bounds_u8 (hwz x (List.mem_of_mem_take hx))
      exact this
    · simp only [List.length_take] at hp
      obtain ⟨b, off, rfl, hc⟩ := ints_at hcell (by omega)
      refine ⟨b, off, rfl, fun i hi => ?_⟩
      simp only [List.length_take] at hi
      rw [hc i (by omega)]
      simp [List.getD, List.getElem?_take, show i < n by omega]
end Go.Proofs.YtkhmomagjkdcdaaDoor
