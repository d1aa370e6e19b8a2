/- A slice of pairs of numbers, opened. -/
import Derived.Test.YtbfelpgojgaeoaaDoorPairs
import Derived.ProofKit
import Derived.OpenShut
import Derived.ChangeSlices
import Derived.Deep.DeepHandedRow
set_option linter.unusedVariables false
set_option linter.unusedSimpArgs false
namespace Go.Proofs.YtbfelpgojgaeoaaDoor
open Go.ChangeShapes Go.WideShapes Go.ChangeAt Go.RowKit

theorem open_pairs {H : Type} {enc : TypeId × Value → H} {W : World} {base b0 : Nat} {spare : Nat → Bool} {held : Bool} {r : Reach} {v : Value} {d : DataW H} {p : List MemPlace}
    (hval : Value.okWide Tryd.prog W r b0 22 v) (h : DataW.Trod enc Tryd.prog W base spare held 22 v d p) :
    ∃ b o cap n ad xs, v = .slice ad n cap ∧ (xs : List (Int × Int)).length = n ∧ (n = 0 ∨ ad = some ⟨b, o, none⟩) ∧ n ≤ cap ∧ AllI64 xs ∧ PairsAt W b o xs := by
  obtain ⟨a0, n0, c0, rfl⟩ := okWide_slice Tryd.underlying22 hval
  obtain ⟨fuel, hf⟩ := h
  have hc : Tryd.prog.cellsOf 26 = 2 := by kernel_rfl
  have c1 : Tryd.prog.cellsOf 3 = 1 := by kernel_rfl
  rcases DataW.trod_slice Tryd.underlying22 hf with ⟨hcs, _⟩ | ⟨a, len, cap, elems, rest, n, _, hcs, _, _, hl, _, hlen, hel, _, _⟩
  · have e : a0 = none ∧ n0 = 0 ∧ c0 = 0 := by simpa [Value.cells] using hcs
    obtain ⟨rfl, rfl, rfl⟩ := e
    exact ⟨0, 0, 0, 0, none, [], rfl, rfl, .inl rfl, Nat.le_refl _, fun x hx => by simp at hx, fun i hi => by simp at hi⟩
  · have e : a0 = some a ∧ n0 = len ∧ c0 = cap := by simpa [Value.cells] using hcs
    obtain ⟨rfl, rfl, rfl⟩ := e
    have each : ∀ i, i < n0 → ∃ A B : Int, W.cell? (a.add (i * 2)) = some (.int .i64 A) ∧ W.cell? ((a.add (i * 2)).add 1) = some (.int .i64 B) ∧ InI64 A ∧ InI64 B := by
      intro i hi
      have hb := hel i hi
      rw [hc, List.getElem?_eq_getElem (by omega), Option.bind_eq_some_iff] at hb
      obtain ⟨cs', hcs', hy⟩ := hb
      obtain ⟨xs, m, _, _, hcl, hxl, hx⟩ := DataW.trod_array Tryd.underlying26 hy
      rw [hc] at hcl
      match cs', hcl with
      | [u0, u1], _ =>
        have key : ∀ (j : Nat) (u : Value), [u0, u1][j]? = some u → j < 2 → ∃ q, u = .int .i64 q ∧ InI64 q := by
          intro j u hu hj
          have hq := hx j hj
          obtain ⟨y, hy'⟩ : ∃ y, xs[j]? = some y := ⟨_, List.getElem?_eq_getElem (by omega)⟩
          have hv : ([u0, u1].drop (j * 1)).take 1 = [u] := by
            rw [Nat.mul_one]
            have hlt' := (List.getElem?_eq_some_iff.1 hu).1
            rw [List.drop_eq_getElem_cons hlt']
            simp [(List.getElem?_eq_some_iff.1 hu).2]
          rw [c1, hv, hy'] at hq
          obtain ⟨q, h1, _, hw⟩ := DataW.trod_int Tryd.underlying3 hq
          exact ⟨q, by simpa using h1, bounds_i64 hw⟩
        obtain ⟨A, rfl, hA⟩ := key 0 u0 rfl (by omega)
        obtain ⟨B, rfl, hB⟩ := key 1 u1 rfl (by omega)
        obtain ⟨_, _, hget⟩ := World.cells?_some hcs'
        exact ⟨A, B, by have := hget 0 (by omega); simpa [Addr.add] using this, by have := hget 1 (by omega); simpa using this, hA, hB⟩
    obtain ⟨b, of, spot⟩ := a
    by_cases h0 : n0 = 0
    · subst h0
      exact ⟨b, of, c0, 0, _, [], rfl, rfl, .inl rfl, Nat.zero_le _, fun x hx => by simp at hx, fun i hi => by simp at hi⟩
    · have hspot : spot = none := by
        obtain ⟨A, B, k1, _⟩ := each 0 (by omega)
        simpa [Addr.add] using World.cell?_spot k1
      subst hspot
      have each' : ∀ i, ∃ x : Int × Int, i < n0 → W.cell? ⟨b, of + i * 2, none⟩ = some (.int .i64 x.1) ∧ W.cell? ⟨b, of + i * 2 + 1, none⟩ = some (.int .i64 x.2) ∧ InI64 x.1 ∧ InI64 x.2 := by
        intro i
        by_cases hi : i < n0
        · obtain ⟨A, B, k1, k2, k3, k4⟩ := each i hi
          rw [Go.WideShapes.add_plain] at k1 k2
          rw [Go.WideShapes.add_plain] at k2
          exact ⟨(A, B), fun _ => ⟨k1, k2, k3, k4⟩⟩
        · exact ⟨(0, 0), fun hi' => absurd hi' hi⟩
      refine ⟨b, of, c0, n0, _, (List.range n0).map fun i => Classical.choose (each' i), rfl, by simp, .inr rfl, hl, ?_, ?_⟩
      · intro x hx
        obtain ⟨i, hi, rfl⟩ := List.mem_map.1 hx
        obtain ⟨_, _, k3, k4⟩ := Classical.choose_spec (each' i) (List.mem_range.1 hi)
        exact ⟨k3, k4⟩
      · intro i hi
        have hi' : i < n0 := by simpa using hi
        obtain ⟨k1, k2, _⟩ := Classical.choose_spec (each' i) hi'
        simp only [List.getElem_map, List.getElem_range]
        exact ⟨k1, k2⟩
end Go.Proofs.YtbfelpgojgaeoaaDoor
