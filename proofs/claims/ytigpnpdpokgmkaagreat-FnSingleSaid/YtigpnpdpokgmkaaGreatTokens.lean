/- The contract of impl.tokens at one token. -/
import Derived.Test.YtigpnpdpokgmkaaGreatStream
import Derived.Deep.RegionHeld3
import Derived.Deep.RegionWith
import Derived.Deep.AppendLies
set_option linter.unusedVariables false
set_option linter.unusedSimpArgs false
namespace Go.Proofs.YtigpnpdpokgmkaaGreat
open Go Go.RowKit

def dataRow (s : ByteArray) (st e po ty : Int) (kw : Bool) : Array Value := #[.string s, .int .i64 st, .int .i64 e, .int .i64 po, .int .i64 ty, .bool kw]
theorem info_data : (Tryz.prog.info? 37).map (fun i => (i.zero, i.size, i.bytes)) = some (some (.agg #[.string ⟨#[]⟩, .int .i64 0, .int .i64 0, .int .i64 0, .int .i64 0, .bool false]), 6, 56) := by kernel_rfl

/-- One new token as a source of an append. -/
theorem src_data (w : World) (s : ByteArray) (st e po ty : Int) (kw : Bool) : Src Tryz.prog 6 22 (.slice (some ⟨w.heap.size, 0, none⟩) 1 1) 1 (dataRow s st e po ty kw).toList (w.alloc (.cells (dataRow s st e po ty kw) 37)) := by
  refine Src.ofSlice _ Tryz.underlying22 ⟨w.heap.size, 0, none⟩ 1 1 (dataRow s st e po ty kw).toList rfl (fun j u hu => ?_) (fun u hu => ?_)
  · rw [add_plain]
    have hu' : (dataRow s st e po ty kw)[j]? = some u := by rw [← Array.getElem?_toList]; exact hu
    exact RowAt.new w (dataRow s st e po ty kw) 37 j u hu'
  · simp [dataRow] at hu
    rcases hu with rfl | rfl | rfl | rfl | rfl | rfl <;> rfl

/-- What the walk reads of a token stays. -/
def TokS (w' : World) (p : Nat) (V : Value) (s : ByteArray) (st e po ty : Int) (kw : Bool) : Prop := w'.cell? ⟨p, 0, none⟩ = some (.int .i64 st) ∧ w'.cell? ⟨p, 1, none⟩ = some (.int .i64 e) ∧ w'.cell? ⟨p, 2, none⟩ = some V ∧ w'.cell? ⟨p, 3, none⟩ = some (.int .i64 po) ∧ w'.cell? ⟨p, 4, none⟩ = some (.int .i64 ty) ∧ w'.cell? ⟨p, 5, none⟩ = some (.bool kw) ∧ (convert 64 9 V).run Tryz.prog w' = .ok (.string s) w'

set_option maxRecDepth 50000 in
set_option maxHeartbeats 4000000 in
theorem tokens_one (g gcap p : Nat) (V : Value) (s : ByteArray) (st e po ty : Int) (kw : Bool) (w : World) (hg : w.cell? ⟨g, 0, none⟩ = some (.pointer (some ⟨p, 0, none⟩))) (ht : RowAt w p #[.int .i64 st, .int .i64 e, V, .int .i64 po, .int .i64 ty, .bool kw])
    (hcv : ∀ W, Below w.heap.size w W → (convert 64 9 V).run Tryz.prog W = .ok (.string s) W) :
    Calls Tryz.prog 30 #[.slice (some ⟨g, 0, none⟩) 1 gcap] w fun x w' => ∃ d dcap, x = .returned (.slice (some ⟨d, 0, none⟩) 1 dcap) ∧ RowAt w' d (dataRow s st e po ty kw) ∧ w.heap.size ≤ d ∧ Below w.heap.size w w' := by
  have CS := Lib.hid (fun (W : World) (h : Below w.heap.size w W) => (show W.cell? ⟨p, 0, none⟩ = some (.int .i64 st) ∧ W.cell? ⟨p, 1, none⟩ = some (.int .i64 e) ∧ W.cell? ⟨p, 2, none⟩ = some V ∧ W.cell? ⟨p, 3, none⟩ = some (.int .i64 po) ∧ W.cell? ⟨p, 4, none⟩ = some (.int .i64 ty) ∧ W.cell? ⟨p, 5, none⟩ = some (.bool kw) ∧ (convert 64 9 V).run Tryz.prog W = .ok (.string s) W from
    ⟨belowRow h (ht 0 _ rfl), belowRow h (ht 1 _ rfl), belowRow h (ht 2 _ rfl), belowRow h (ht 3 _ rfl), belowRow h (ht 4 _ rfl), belowRow h (ht 5 _ rfl), hcv W h⟩))
  have c0 : w.cell? ⟨p, 0, none⟩ = some (.int .i64 st) := ht 0 _ rfl
  obtain ⟨i, hi, hzz⟩ := Option.map_eq_some_iff.1 info_data
  simp only [Prod.mk.injEq] at hzz
  obtain ⟨hz, hsz', hby⟩ := hzz
  have I := Lib.hid (And.intro hi (And.intro hz (And.intro hsz' hby)))
  have hB1 : Below w.heap.size w w.drew := below_drewN (Below.refl _ _) 1
  have hB2 : Below w.heap.size w (w.alloc (.cells #[.string s, .int .i64 st, .int .i64 e, .int .i64 po, .int .i64 ty, .bool kw] 37)).drew := below_drewN ((Below.refl _ _).alloc (Nat.le_refl _) _) 1
  have B1 := Lib.hid hB1
  have B2 := Lib.hid hB2
  have hone : ∀ u ∈ (dataRow s st e po ty kw).toList, u.oneCell' = true := fun u hu => by
    simp [dataRow] at hu
    rcases hu with rfl | rfl | rfl | rfl | rfl | rfl <;> rfl
  have HO := Lib.hid hone
  clear ht hcv hi hz hsz' hby hB1 hB2 hone
  go_enter Tryz.func30, Tryz.ntmps30
  go_wp2
  refine wp_loop_rounds 2 ?_
  simp only [rounds_succ]
  go_wp2_with fail
  go_region_held3 (fun W => W.cell? ⟨p, 0, none⟩ = some (.int .i64 st) ∧ W.cell? ⟨p, 1, none⟩ = some (.int .i64 e) ∧ W.cell? ⟨p, 2, none⟩ = some V ∧ W.cell? ⟨p, 3, none⟩ = some (.int .i64 po) ∧ W.cell? ⟨p, 4, none⟩ = some (.int .i64 ty) ∧ W.cell? ⟨p, 5, none⟩ = some (.bool kw) ∧ (convert 64 9 V).run Tryz.prog W = .ok (.string s) W)
    (first | with_reducible exact CS.out _ B3 | with_reducible exact CS.out _ B2.out | with_reducible exact CS.out _ B1.out)
    ((refine step_append_lies _ (by rfl) _ _ _ (by rfl) w.heap.size 37 i _ 6 56 Tryz.underlying22 I.out.1 I.out.2.1 I.out.2.2.1 I.out.2.2.2 (by rfl) (by omega) (.slice none 0 0) 0 [] (by rfl) (World.ownsRow_nil _ _ _ _) ⟨w.heap.size, 0, none⟩ 1 1 (dataRow s st e po ty kw).toList (by rfl) (by rfl) (World.news_of_block (heap_alloc_new w _)) HO.out (by omega) (by simp [maxLen]) (by omega) (by simp) (w.heap.size + 1) (by simp) ?_; intro d cap w2 hown hgrow hat hlt; have B3 := B2.out.trans (((Below.refl _ _).grown hgrow (Nat.le_refl _) (fun k hk => by cases hk)).mono B2.out.size)))
  have hrow : RowAt w2 d (dataRow s st e po ty kw) := by
    intro j u hu
    have hj : j < 6 := by have := (Array.getElem?_eq_some_iff.1 hu).1; simpa [dataRow] using this
    have hc := hown.cellAt j (by simp; omega)
    rw [hc]
    rw [List.nil_append, Array.getElem?_toList]; exact hu
  have HR := Lib.hid hrow
  have HB := Lib.hid B3
  have hdb : w.heap.size ≤ d := by
    rcases hown.2 with ⟨h, _⟩ | ⟨g2, cap2, cur, he, hb, _⟩
    · cases h
    · injection he with h1
      injection h1 with h1
      injection h1 with h1
      subst h1
      exact hb
  clear hown hgrow hat hlt hrow B3 c0 hg
  go_wp2
  simp only [rounds_succ]
  go_wp2
  go_ret
  exact ⟨d, cap, rfl, HR.out, hdb, HB.out⟩
end Go.Proofs.YtigpnpdpokgmkaaGreat
