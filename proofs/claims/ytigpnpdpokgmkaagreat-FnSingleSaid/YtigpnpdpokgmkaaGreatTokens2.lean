/- The contract of impl.tokens at two tokens. -/
import Derived.Test.YtigpnpdpokgmkaaGreatTokens
set_option linter.unusedVariables false
set_option linter.unusedSimpArgs false
namespace Go.Proofs.YtigpnpdpokgmkaaGreat
open Go Go.RowKit

theorem data_one (s : ByteArray) (st e po ty : Int) (kw : Bool) : ∀ u ∈ (dataRow s st e po ty kw).toList, u.oneCell' = true := fun u hu => by
  simp [dataRow] at hu
  rcases hu with rfl | rfl | rfl | rfl | rfl | rfl <;> rfl

set_option maxRecDepth 50000 in
set_option maxHeartbeats 8000000 in
theorem tokens_two (g gcap p1 p2 : Nat) (V1 V2 : Value) (s1 s2 : ByteArray) (st1 e1 po1 ty1 st2 e2 po2 ty2 : Int) (kw1 kw2 : Bool) (w : World) (hg1 : w.cell? ⟨g, 0, none⟩ = some (.pointer (some ⟨p1, 0, none⟩))) (hg2 : w.cell? ⟨g, 1, none⟩ = some (.pointer (some ⟨p2, 0, none⟩)))
    (ht1 : RowAt w p1 #[.int .i64 st1, .int .i64 e1, V1, .int .i64 po1, .int .i64 ty1, .bool kw1]) (ht2 : RowAt w p2 #[.int .i64 st2, .int .i64 e2, V2, .int .i64 po2, .int .i64 ty2, .bool kw2])
    (hcv1 : ∀ W, Below w.heap.size w W → (convert 64 9 V1).run Tryz.prog W = .ok (.string s1) W) (hcv2 : ∀ W, Below w.heap.size w W → (convert 64 9 V2).run Tryz.prog W = .ok (.string s2) W) :
    Calls Tryz.prog 30 #[.slice (some ⟨g, 0, none⟩) 2 gcap] w fun x w' => ∃ d dcap, x = .returned (.slice (some ⟨d, 0, none⟩) 2 dcap) ∧ (∀ j u, (dataRow s2 st2 e2 po2 ty2 kw2)[j]? = some u → w'.cell? ⟨d, 6 + j, none⟩ = some u) ∧ w.heap.size ≤ d ∧ Below w.heap.size w w' := by
  have CS1 := Lib.hid (fun (W : World) (h : Below w.heap.size w W) => (show W.cell? ⟨p1, 0, none⟩ = some (.int .i64 st1) ∧ W.cell? ⟨p1, 1, none⟩ = some (.int .i64 e1) ∧ W.cell? ⟨p1, 2, none⟩ = some V1 ∧ W.cell? ⟨p1, 3, none⟩ = some (.int .i64 po1) ∧ W.cell? ⟨p1, 4, none⟩ = some (.int .i64 ty1) ∧ W.cell? ⟨p1, 5, none⟩ = some (.bool kw1) ∧ (convert 64 9 V1).run Tryz.prog W = .ok (.string s1) W from
    ⟨belowRow h (ht1 0 _ rfl), belowRow h (ht1 1 _ rfl), belowRow h (ht1 2 _ rfl), belowRow h (ht1 3 _ rfl), belowRow h (ht1 4 _ rfl), belowRow h (ht1 5 _ rfl), hcv1 W h⟩))
  have CS2 := Lib.hid (fun (W : World) (h : Below w.heap.size w W) => (show W.cell? ⟨p2, 0, none⟩ = some (.int .i64 st2) ∧ W.cell? ⟨p2, 1, none⟩ = some (.int .i64 e2) ∧ W.cell? ⟨p2, 2, none⟩ = some V2 ∧ W.cell? ⟨p2, 3, none⟩ = some (.int .i64 po2) ∧ W.cell? ⟨p2, 4, none⟩ = some (.int .i64 ty2) ∧ W.cell? ⟨p2, 5, none⟩ = some (.bool kw2) ∧ (convert 64 9 V2).run Tryz.prog W = .ok (.string s2) W from
    ⟨belowRow h (ht2 0 _ rfl), belowRow h (ht2 1 _ rfl), belowRow h (ht2 2 _ rfl), belowRow h (ht2 3 _ rfl), belowRow h (ht2 4 _ rfl), belowRow h (ht2 5 _ rfl), hcv2 W h⟩))
  have CG := Lib.hid (fun (W : World) (h : Below w.heap.size w W) => belowRow h hg2)
  obtain ⟨i, hi, hzz⟩ := Option.map_eq_some_iff.1 info_data
  simp only [Prod.mk.injEq] at hzz
  obtain ⟨hz, hsz', hby⟩ := hzz
  have I := Lib.hid (And.intro hi (And.intro hz (And.intro hsz' hby)))
  have B1 := Lib.hid (show Below w.heap.size w w.drew from below_drewN (Below.refl _ _) 1)
  have B2 := Lib.hid (show Below w.heap.size w (w.alloc (.cells #[.string s1, .int .i64 st1, .int .i64 e1, .int .i64 po1, .int .i64 ty1, .bool kw1] 37)).drew from below_drewN ((Below.refl _ _).alloc (Nat.le_refl _) _) 1)
  have HO1 := Lib.hid (data_one s1 st1 e1 po1 ty1 kw1)
  have HO2 := Lib.hid (data_one s2 st2 e2 po2 ty2 kw2)
  clear ht1 ht2 hcv1 hcv2 hi hz hsz' hby hg2
  go_enter Tryz.func30, Tryz.ntmps30
  go_wp2
  refine wp_loop_rounds 3 ?_
  simp only [rounds_succ]
  go_wp2_with fail
  go_region_held3 (fun W => W.cell? ⟨p1, 0, none⟩ = some (.int .i64 st1) ∧ W.cell? ⟨p1, 1, none⟩ = some (.int .i64 e1) ∧ W.cell? ⟨p1, 2, none⟩ = some V1 ∧ W.cell? ⟨p1, 3, none⟩ = some (.int .i64 po1) ∧ W.cell? ⟨p1, 4, none⟩ = some (.int .i64 ty1) ∧ W.cell? ⟨p1, 5, none⟩ = some (.bool kw1) ∧ (convert 64 9 V1).run Tryz.prog W = .ok (.string s1) W)
    (first | with_reducible exact CS1.out _ B3 | with_reducible exact CS1.out _ B2.out | with_reducible exact CS1.out _ B1.out)
    ((refine step_append_lies _ (by rfl) _ _ _ (by rfl) w.heap.size 37 i _ 6 56 Tryz.underlying22 I.out.1 I.out.2.1 I.out.2.2.1 I.out.2.2.2 (by rfl) (by omega) (.slice none 0 0) 0 [] (by rfl) (World.ownsRow_nil _ _ _ _) ⟨w.heap.size, 0, none⟩ 1 1 (dataRow s1 st1 e1 po1 ty1 kw1).toList (by rfl) (by rfl) (World.news_of_block (heap_alloc_new w _)) HO1.out (by omega) (by simp [maxLen]) (by omega) (by simp) (w.heap.size + 1) (by simp) ?_; intro d cap w2 hown hgrow hat hlt; have B3 := B2.out.trans (((Below.refl _ _).grown hgrow (Nat.le_refl _) (fun k hk => by cases hk)).mono B2.out.size)))
  have OW := Lib.hid hown
  have hdb : w.heap.size ≤ d := by
    rcases hown.2 with ⟨h, _⟩ | ⟨g2, cap2, cur, he, hb, _⟩
    · cases h
    · injection he with h1
      injection h1 with h1
      injection h1 with h1
      subst h1
      exact hb
  have HB3 := Lib.hid B3
  have q2 : w2.cell? ⟨g, 1, none⟩ = some (.pointer (some ⟨p2, 0, none⟩)) := CG.out _ B3
  clear hown hgrow hat hlt B3 hg1
  go_wp2
  simp only [rounds_succ]
  have B4 := Lib.hid (show Below w.heap.size w w2.drew from below_drewN HB3.out 1)
  have B5 := Lib.hid (show Below w.heap.size w (w2.alloc (.cells #[.string s2, .int .i64 st2, .int .i64 e2, .int .i64 po2, .int .i64 ty2, .bool kw2] 37)).drew from below_drewN (HB3.out.alloc HB3.out.size _) 1)
  have OW2 := Lib.hid (show ((w2.alloc (.cells #[.string s2, .int .i64 st2, .int .i64 e2, .int .i64 po2, .int .i64 ty2, .bool kw2] 37)).drew).ownsRow w.heap.size 37 6 (.slice (some ⟨d, 0, none⟩) (0 + 1) cap) (0 + 1) ([] ++ (dataRow s1 st1 e1 po1 ty1 kw1).toList) from OW.out.alloc _)
  go_wp2_with fail
  go_region_held3 (fun W => W.cell? ⟨p2, 0, none⟩ = some (.int .i64 st2) ∧ W.cell? ⟨p2, 1, none⟩ = some (.int .i64 e2) ∧ W.cell? ⟨p2, 2, none⟩ = some V2 ∧ W.cell? ⟨p2, 3, none⟩ = some (.int .i64 po2) ∧ W.cell? ⟨p2, 4, none⟩ = some (.int .i64 ty2) ∧ W.cell? ⟨p2, 5, none⟩ = some (.bool kw2) ∧ (convert 64 9 V2).run Tryz.prog W = .ok (.string s2) W)
    (first | with_reducible exact CS2.out _ B6 | with_reducible exact CS2.out _ B5.out | with_reducible exact CS2.out _ B4.out)
    ((refine step_append_lies _ (by rfl) _ _ _ (by rfl) w.heap.size 37 i _ 6 56 Tryz.underlying22 I.out.1 I.out.2.1 I.out.2.2.1 I.out.2.2.2 (by rfl) (by omega) (.slice (some ⟨d, 0, none⟩) (0 + 1) cap) (0 + 1) ([] ++ (dataRow s1 st1 e1 po1 ty1 kw1).toList) (by rfl) OW2.out ⟨w2.heap.size, 0, none⟩ 1 1 (dataRow s2 st2 e2 po2 ty2 kw2).toList (by rfl) (by rfl) (World.news_of_block (heap_alloc_new w2 _)) HO2.out (by omega) (by simp [maxLen]) (by omega) B5.out.size (w2.heap.size + 1) (by simp) ?_; intro d2 cap2 w3 hown hgrow hat hlt; have B6 := B5.out.grown hgrow B5.out.size (fun k hk => by injection hk with hk; subst hk; exact hdb)))
  have hrow : ∀ j u, (dataRow s2 st2 e2 po2 ty2 kw2)[j]? = some u → w3.cell? ⟨d2, 6 + j, none⟩ = some u := by
    intro j u hu
    have hj : j < 6 := by have := (Array.getElem?_eq_some_iff.1 hu).1; simpa [dataRow] using this
    have hc := hown.cellAt (6 + j) (by omega)
    rw [hc, List.nil_append, List.getElem?_append_right (by simp [dataRow])]
    have e6 : 6 + j - (dataRow s1 st1 e1 po1 ty1 kw1).toList.length = j := by simp [dataRow]
    rw [e6, Array.getElem?_toList]; exact hu
  have HR := Lib.hid hrow
  have HB := Lib.hid B6
  have hdb2 : w.heap.size ≤ d2 := by
    rcases hown.2 with ⟨h, _⟩ | ⟨g2, cap2, cur, he, hb, _⟩
    · cases h
    · injection he with h1
      injection h1 with h1
      injection h1 with h1
      subst h1
      exact hb
  clear hown hgrow hat hlt hrow B6 q2
  go_wp2
  simp only [rounds_succ]
  go_wp2
  go_ret
  exact ⟨d2, cap2, rfl, HR.out, hdb2, HB.out⟩
end Go.Proofs.YtigpnpdpokgmkaaGreat
