/- A step with a word, taken by value, opened: numbers, texts, a text, a truth value. -/
import Derived.Test.YtaohmmpfiehniaaOpenStrs
import Derived.Test.YtaohmmpfiehniaaSpecStep
set_option linter.unusedVariables false
set_option linter.unusedSimpArgs false
namespace Go.Proofs.Ytaohmmpfiehniaa
open Go.ChangeShapes Go.WideShapes Go.ChangeAt Go.RowKit

theorem open_step {H : Type} {enc : TypeId × Value → H} {W : World} {base b0 : Nat} {spare : Nat → Bool} {held : Bool} {r : Reach} {v : Value} {d : DataW H} {p : List MemPlace}
    (hval : Value.okWide Try.prog W r b0 32 v) (h : DataW.Trod enc Try.prog W base spare held 32 v d p) : ∃ kd N st ad tcap u f ss, v = stepV' kd N st (.slice ad (ss : List ByteArray).length tcap) u f ∧ StrsAt W ad ss ∧ u.size ≤ maxLen := by
  obtain ⟨cs, rfl, hsz⟩ := okWide_struct Try.underlying32 hval
  obtain ⟨fuel, hf⟩ := h
  have hc : Try.prog.cellsOf 32 = 6 := by kernel_rfl
  obtain ⟨xs, n, rfl, hx, hl, hxl, hi⟩ := DataW.trod_struct Try.underlying32 hf
  rw [hc] at hsz
  obtain ⟨l⟩ := cs
  match l, hsz with
  | [v0, v1, v2, v3, v4, v5], _ =>
    have c1 : Try.prog.cellsOf 3 = 1 := by kernel_rfl
    have c2 : Try.prog.cellsOf 9 = 1 := by kernel_rfl
    have c3 : Try.prog.cellsOf 30 = 1 := by kernel_rfl
    have c4 : Try.prog.cellsOf 4 = 1 := by kernel_rfl
    have cut : ∀ (o : Nat) (v : Value), [v0, v1, v2, v3, v4, v5][o]? = some v → ((Value.agg ⟨[v0, v1, v2, v3, v4, v5]⟩).cells.toList.drop o).take 1 = [v] := by
      intro o v hd
      show ([v0, v1, v2, v3, v4, v5].drop o).take 1 = [v]
      have hlt' := (List.getElem?_eq_some_iff.1 hd).1
      rw [List.drop_eq_getElem_cons hlt']
      simp [(List.getElem?_eq_some_iff.1 hd).2]
    have key : ∀ (i : Nat) (t : TypeId) (o : Nat) (v : Value), (∃ f : Field, f.type = t ∧ f.offset = o ∧ (match Try.prog.underlying 32 with | some (.struct fs) => fs[i]? | _ => none) = some f) → Try.prog.cellsOf t = 1 → [v0, v1, v2, v3, v4, v5][o]? = some v → i < 6 → ∃ y, DataW.trod enc Try.prog W base spare held n t [v] = some y := by
      rintro i t o v ⟨f, rfl, rfl, hf⟩ hc1 hd hlt
      rw [Try.underlying32] at hf
      have hq := hi i f hf
      have hlx : i < xs.length := by rw [hxl]; exact hlt
      rw [hc1, cut _ _ hd, List.getElem?_eq_getElem hlx] at hq
      exact ⟨_, hq⟩
    have fld : ∀ (i : Nat) (t : TypeId), (∃ f : Field, f.type = t ∧ f.offset = i ∧ (match Try.prog.underlying 32 with | some (.struct fs) => fs[i]? | _ => none) = some f) ↔ ((match Try.prog.underlying 32 with | some (.struct fs) => fs[i]? | _ => none).map fun f : Field => (f.type, f.offset)) = some (t, i) := by
      intro i t
      constructor
      · rintro ⟨f, rfl, h2, h3⟩; rw [h3]; simp [h2]
      · intro h; rw [Option.map_eq_some_iff] at h; obtain ⟨f, h1, h2⟩ := h; injection h2 with h3 h4; exact ⟨f, h3, h4, h1⟩
    obtain ⟨y0, h0⟩ := key 0 3 0 v0 ((fld 0 3).2 (by kernel_rfl)) c1 rfl (by omega)
    obtain ⟨y1, h1⟩ := key 1 3 1 v1 ((fld 1 3).2 (by kernel_rfl)) c1 rfl (by omega)
    obtain ⟨y2, h2⟩ := key 2 3 2 v2 ((fld 2 3).2 (by kernel_rfl)) c1 rfl (by omega)
    obtain ⟨y3, h3⟩ := key 3 30 3 v3 ((fld 3 30).2 (by kernel_rfl)) c3 rfl (by omega)
    obtain ⟨y4, h4⟩ := key 4 9 4 v4 ((fld 4 9).2 (by kernel_rfl)) c2 rfl (by omega)
    obtain ⟨y5, h5⟩ := key 5 4 5 v5 ((fld 5 4).2 (by kernel_rfl)) c4 rfl (by omega)
    obtain ⟨a, e0, _⟩ := DataW.trod_int Try.underlying3 h0
    obtain ⟨b, e1, _⟩ := DataW.trod_int Try.underlying3 h1
    obtain ⟨c, e2, _⟩ := DataW.trod_int Try.underlying3 h2
    obtain ⟨u, e4, _, hsz0⟩ := DataW.trod_string Try.underlying9 h4
    obtain ⟨f, e5, _⟩ := DataW.trod_bool Try.underlying4 h5
    obtain rfl : v0 = .int .i64 a := by simpa using e0
    obtain rfl : v1 = .int .i64 b := by simpa using e1
    obtain rfl : v2 = .int .i64 c := by simpa using e2
    obtain rfl : v4 = .string u := by simpa using e4
    obtain rfl : v5 = .bool f := by simpa using e5
    rcases open_strings Try.underlying30 Try.underlying9 c2 h3 with ⟨hcs, _⟩ | ⟨ad, len, cap, ss, hcs, _, hle, hm, hz, _, hcell, _⟩
    · obtain rfl : v3 = .slice none 0 0 := by simpa using hcs
      exact ⟨a, b, c, none, 0, u, f, [], rfl, fun i hi => by simp at hi, hsz0⟩
    · obtain rfl : v3 = .slice (some ad) len cap := by simpa using hcs
      have hle : len ≤ ss.length := by rw [hz]; split <;> omega
      have hlen : (ss.take len).length = len := by rw [List.length_take]; omega
      refine ⟨a, b, c, some ad, cap, u, f, ss.take len, by rw [hlen]; rfl, fun i hi => ?_, hsz0⟩
      have hi' : i < ss.length := by omega
      obtain ⟨bk, off, spot⟩ := ad
      have hspot : spot = none := by simpa [Addr.add] using World.cell?_spot (hcell 0 (by omega))
      subst hspot
      refine ⟨bk, off, rfl, ?_⟩
      have := hcell i hi'
      rw [Go.WideShapes.add_plain] at this
      rw [this]
      have hin : i < len := by omega
      simp [List.getD, hi', hin]
end Go.Proofs.Ytaohmmpfiehniaa
