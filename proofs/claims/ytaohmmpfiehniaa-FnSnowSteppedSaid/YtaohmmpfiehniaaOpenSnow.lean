/- A word, taken by value, opened: a text and three places. -/
import Derived.Test.YtaohmmpfiehniaaNew
import Derived.Test.YtaohmmpfiehniaaFrame
set_option linter.unusedVariables false
set_option linter.unusedSimpArgs false
namespace Go.Proofs.Ytaohmmpfiehniaa
open Go.ChangeShapes Go.WideShapes Go.ChangeAt Go.RowKit

theorem open_snow {H : Type} {enc : TypeId × Value → H} {W : World} {base b0 : Nat} {spare : Nat → Bool} {held : Bool} {r : Reach} {v : Value} {d : DataW H} {p : List MemPlace}
    (hval : Value.okWide Try.prog W r b0 27 v) (h : DataW.Trod enc Try.prog W base spare held 27 v d p) : ∃ s a b c, v = snowV s a b c ∧ s.size ≤ maxLen := by
  obtain ⟨cs, rfl, hsz⟩ := okWide_struct Try.underlying27 hval
  obtain ⟨fuel, hf⟩ := h
  have hc : Try.prog.cellsOf 27 = 4 := by kernel_rfl
  obtain ⟨xs, n, rfl, hx, hl, hxl, hi⟩ := DataW.trod_struct Try.underlying27 hf
  rw [hc] at hsz
  obtain ⟨l⟩ := cs
  match l, hsz with
  | [v0, v1, v2, v3], _ =>
    have c1 : Try.prog.cellsOf 3 = 1 := by kernel_rfl
    have c2 : Try.prog.cellsOf 9 = 1 := by kernel_rfl
    have cut : ∀ (o : Nat) (v : Value), [v0, v1, v2, v3][o]? = some v → ((Value.agg ⟨[v0, v1, v2, v3]⟩).cells.toList.drop o).take 1 = [v] := by
      intro o v hd
      show ([v0, v1, v2, v3].drop o).take 1 = [v]
      have hlt' := (List.getElem?_eq_some_iff.1 hd).1
      rw [List.drop_eq_getElem_cons hlt']
      simp [(List.getElem?_eq_some_iff.1 hd).2]
    have key : ∀ (i : Nat) (t : TypeId) (o : Nat) (v : Value), (∃ f : Field, f.type = t ∧ f.offset = o ∧ (match Try.prog.underlying 27 with | some (.struct fs) => fs[i]? | _ => none) = some f) → Try.prog.cellsOf t = 1 → [v0, v1, v2, v3][o]? = some v → i < 4 → ∃ y, DataW.trod enc Try.prog W base spare held n t [v] = some y := by
      rintro i t o v ⟨f, rfl, rfl, hf⟩ hc1 hd hlt
      rw [Try.underlying27] at hf
      have hq := hi i f hf
      have hlx : i < xs.length := by rw [hxl]; exact hlt
      rw [hc1, cut _ _ hd, List.getElem?_eq_getElem hlx] at hq
      exact ⟨_, hq⟩
    have fld : ∀ (i : Nat) (t : TypeId), (∃ f : Field, f.type = t ∧ f.offset = i ∧ (match Try.prog.underlying 27 with | some (.struct fs) => fs[i]? | _ => none) = some f) ↔ ((match Try.prog.underlying 27 with | some (.struct fs) => fs[i]? | _ => none).map fun f : Field => (f.type, f.offset)) = some (t, i) := by
      intro i t
      constructor
      · rintro ⟨f, rfl, h2, h3⟩; rw [h3]; simp [h2]
      · intro h; rw [Option.map_eq_some_iff] at h; obtain ⟨f, h1, h2⟩ := h; injection h2 with h3 h4; exact ⟨f, h3, h4, h1⟩
    obtain ⟨y0, h0⟩ := key 0 9 0 v0 ((fld 0 9).2 (by kernel_rfl)) c2 rfl (by omega)
    obtain ⟨y1, h1⟩ := key 1 3 1 v1 ((fld 1 3).2 (by kernel_rfl)) c1 rfl (by omega)
    obtain ⟨y2, h2⟩ := key 2 3 2 v2 ((fld 2 3).2 (by kernel_rfl)) c1 rfl (by omega)
    obtain ⟨y3, h3⟩ := key 3 3 3 v3 ((fld 3 3).2 (by kernel_rfl)) c1 rfl (by omega)
    obtain ⟨s, e0, _, hsz0⟩ := DataW.trod_string Try.underlying9 h0
    obtain ⟨a, e1, _⟩ := DataW.trod_int Try.underlying3 h1
    obtain ⟨b, e2, _⟩ := DataW.trod_int Try.underlying3 h2
    obtain ⟨c, e3, _⟩ := DataW.trod_int Try.underlying3 h3
    obtain rfl : v0 = .string s := by simpa using e0
    obtain rfl : v1 = .int .i64 a := by simpa using e1
    obtain rfl : v2 = .int .i64 b := by simpa using e2
    obtain rfl : v3 = .int .i64 c := by simpa using e3
    exact ⟨s, a, b, c, rfl, hsz0⟩
end Go.Proofs.Ytaohmmpfiehniaa
