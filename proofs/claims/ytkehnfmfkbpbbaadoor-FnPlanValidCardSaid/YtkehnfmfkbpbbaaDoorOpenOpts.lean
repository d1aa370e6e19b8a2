/- A struct of options, taken by value, opened: eight whole numbers. -/
import Derived.Test.YtkehnfmfkbpbbaaDoorOpt
import Derived.ProofKit
import Derived.OpenShut
import Derived.Deep.DeepHandedRow
set_option linter.unusedVariables false
set_option linter.unusedSimpArgs false
namespace Go.Proofs.YtkehnfmfkbpbbaaDoor
open Go.ChangeShapes Go.WideShapes Go.ChangeAt Go.RowKit

theorem laidOut : laidOutB Tryd.prog = true := by kernel_rfl
theorem own : ownKnob Tryd.prog.godebug = none := by kernel_rfl

theorem open_opts {H : Type} {enc : TypeId × Value → H} {W : World} {base b0 : Nat} {spare : Nat → Bool} {held : Bool} {r : Reach} {v : Value} {d : DataW H} {p : List MemPlace}
    (hval : Value.okWide Tryd.prog W r b0 24 v) (h : DataW.Trod enc Tryd.prog W base spare held 24 v d p) : ∃ a b c d e f g h, v = optsV a b c d e f g h := by
  obtain ⟨cs, rfl, hsz⟩ := okWide_struct Tryd.underlying24 hval
  obtain ⟨fuel, hf⟩ := h
  have hc : Tryd.prog.cellsOf 24 = 8 := by kernel_rfl
  obtain ⟨xs, n, rfl, hx, hl, hxl, hi⟩ := DataW.trod_struct Tryd.underlying24 hf
  rw [hc] at hsz
  obtain ⟨l⟩ := cs
  match l, hsz with
  | [v0, v1, v2, v3, v4, v5, v6, v7], _ =>
    have c1 : Tryd.prog.cellsOf 3 = 1 := by kernel_rfl
    have c2 : Tryd.prog.cellsOf 2 = 1 := by kernel_rfl
    have c3 : Tryd.prog.cellsOf 22 = 1 := by kernel_rfl
    have key : ∀ (i : Nat) (t : TypeId) (o : Nat) (k : IntKind) (v : Value), (∃ f : Field, f.type = t ∧ f.offset = o ∧ (match Tryd.prog.underlying 24 with | some (.struct fs) => fs[i]? | _ => none) = some f) → Tryd.prog.underlying t = some (.int k) → Tryd.prog.cellsOf t = 1 → [v0, v1, v2, v3, v4, v5, v6, v7][o]? = some v → i < 8 → ∃ a, v = .int k a := by
      rintro i t o k v ⟨f, rfl, rfl, hf⟩ hu hc1 hd hlt
      rw [Tryd.underlying24] at hf
      have hq := hi i f hf
      have hlx : i < xs.length := by rw [hxl]; exact hlt
      obtain ⟨y, hx'⟩ : ∃ y, xs[i]? = some y := ⟨_, List.getElem?_eq_getElem hlx⟩
      have hv : ((Value.agg ⟨[v0, v1, v2, v3, v4, v5, v6, v7]⟩).cells.toList.drop f.offset).take 1 = [v] := by
        show ([v0, v1, v2, v3, v4, v5, v6, v7].drop f.offset).take 1 = [v]
        have hlt' := (List.getElem?_eq_some_iff.1 hd).1
        rw [List.drop_eq_getElem_cons hlt']
        simp [(List.getElem?_eq_some_iff.1 hd).2]
      rw [hc1, hv, hx'] at hq
      obtain ⟨a, h1, _⟩ := DataW.trod_int hu hq
      exact ⟨a, by simpa using h1⟩
    have fld : ∀ (i : Nat) (t : TypeId), (∃ f : Field, f.type = t ∧ f.offset = i ∧ (match Tryd.prog.underlying 24 with | some (.struct fs) => fs[i]? | _ => none) = some f) ↔ ((match Tryd.prog.underlying 24 with | some (.struct fs) => fs[i]? | _ => none).map fun f : Field => (f.type, f.offset)) = some (t, i) := by
      intro i t
      constructor
      · rintro ⟨f, rfl, h2, h3⟩; rw [h3]; simp [h2]
      · intro h; rw [Option.map_eq_some_iff] at h; obtain ⟨f, h1, h2⟩ := h; injection h2 with h3 h4; exact ⟨f, h3, h4, h1⟩
    obtain ⟨n0, rfl⟩ := key 0 3 0 .i64 v0 ((fld 0 3).2 (by kernel_rfl)) Tryd.underlying3 c1 rfl (by omega)
    obtain ⟨n1, rfl⟩ := key 1 3 1 .i64 v1 ((fld 1 3).2 (by kernel_rfl)) Tryd.underlying3 c1 rfl (by omega)
    obtain ⟨n2, rfl⟩ := key 2 2 2 .i64 v2 ((fld 2 2).2 (by kernel_rfl)) Tryd.underlying2 c2 rfl (by omega)
    obtain ⟨n3, rfl⟩ := key 3 2 3 .i64 v3 ((fld 3 2).2 (by kernel_rfl)) Tryd.underlying2 c2 rfl (by omega)
    obtain ⟨n4, rfl⟩ := key 4 22 4 .u64 v4 ((fld 4 22).2 (by kernel_rfl)) Tryd.underlying22 c3 rfl (by omega)
    obtain ⟨n5, rfl⟩ := key 5 22 5 .u64 v5 ((fld 5 22).2 (by kernel_rfl)) Tryd.underlying22 c3 rfl (by omega)
    obtain ⟨n6, rfl⟩ := key 6 2 6 .i64 v6 ((fld 6 2).2 (by kernel_rfl)) Tryd.underlying2 c2 rfl (by omega)
    obtain ⟨n7, rfl⟩ := key 7 2 7 .i64 v7 ((fld 7 2).2 (by kernel_rfl)) Tryd.underlying2 c2 rfl (by omega)
    exact ⟨n0, n1, n2, n3, n4, n5, n6, n7, rfl⟩
end Go.Proofs.YtkehnfmfkbpbbaaDoor
