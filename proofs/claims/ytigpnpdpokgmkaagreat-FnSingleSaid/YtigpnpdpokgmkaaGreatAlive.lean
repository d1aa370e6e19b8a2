/- The contracts of impl.Filtered and of laws.filterAlive. -/
import Derived.Test.YtigpnpdpokgmkaaGreatFilt
set_option linter.unusedVariables false
set_option linter.unusedSimpArgs false
namespace Go.Proofs.YtigpnpdpokgmkaaGreat
open Go Go.RowKit

theorem enter_ft (cap : Array Value) (w : World) : (callFunc 27 cap).run Tryz.prog w = .ok (.enter 27 cap) w := by kernel_rfl
def ftBlocks (v1 v2 : Value) : List Obj := [.cells #[v1] 22, .cells #[v2] 23, .cells #[.slice none 0 0] 22]

set_option maxRecDepth 50000 in
set_option maxHeartbeats 4000000 in
theorem filtered (b1 b2 : Nat) (w : World) (r1 : RowAt w b1 (dataRow sAbC 2 5 1 0 false)) (r2 : RowAt w b2 filtRow) :
    Calls Tryz.prog 12 #[.slice (some ⟨b1, 0, none⟩) 1 1, .slice (some ⟨b2, 0, none⟩) 1 1] w fun x w' => ∃ d dcap, x = .returned (.slice (some ⟨d, 0, none⟩) 1 dcap) ∧ CellsAt w' d fLow ∧ Below w.heap.size w w' := by
  have hmf : ∀ (fn : Fn) (first cap : Array Value) (w : World), (Instr.makeFunc fn first cap).run Tryz.prog w = .ok (.func fn first cap) w := fun _ _ _ _ => rfl
  have R := Lib.hid (And.intro r1 r2)
  clear r1 r2
  go_enter Tryz.func12, Tryz.ntmps12
  go_wp2_with fail
  change Calls _ _ _ (allocs w (ftBlocks (.slice (some ⟨b1, 0, none⟩) 1 1) (.slice (some ⟨b2, 0, none⟩) 1 1))) _
  have o0 : One (allocs w (ftBlocks (.slice (some ⟨b1, 0, none⟩) 1 1) (.slice (some ⟨b2, 0, none⟩) 1 1))) w.heap.size (.slice (some ⟨b1, 0, none⟩) 1 1) := allocs_one (i := 0) rfl rfl
  have o1 : One (allocs w (ftBlocks (.slice (some ⟨b1, 0, none⟩) 1 1) (.slice (some ⟨b2, 0, none⟩) 1 1))) (w.heap.size + 1) (.slice (some ⟨b2, 0, none⟩) 1 1) := allocs_one (i := 1) rfl rfl
  have o2 : One (allocs w (ftBlocks (.slice (some ⟨b1, 0, none⟩) 1 1) (.slice (some ⟨b2, 0, none⟩) 1 1))) (w.heap.size + 2) (.slice none 0 0) := allocs_one (i := 2) rfl rfl
  have hb8 : Below w.heap.size w (allocs w (ftBlocks (.slice (some ⟨b1, 0, none⟩) 1 1) (.slice (some ⟨b2, 0, none⟩) 1 1))) := allocs_below _ w _ (Nat.le_refl _)
  have hz : (allocs w (ftBlocks (.slice (some ⟨b1, 0, none⟩) 1 1) (.slice (some ⟨b2, 0, none⟩) 1 1))).heap.size = w.heap.size + 3 := allocs_size _ _
  generalize allocs w (ftBlocks (.slice (some ⟨b1, 0, none⟩) 1 1) (.slice (some ⟨b2, 0, none⟩) 1 1)) = W at *
  refine (safe_any 27 _ W (fun wx => ∃ d dcap, One wx (w.heap.size + 2) (.slice (some ⟨d, 0, none⟩) 1 dcap) ∧ CellsAt wx d fLow ∧ W.heap.size < d ∧ Below w.heap.size w wx ∧ W.heap.size < wx.heap.size) (fun w => enter_ft _ w) ?_).mono ?_
  · have hb5 : Below W.heap.size W (W.alloc (.cells #[.bool false] 4)) := (Below.refl _ _).alloc (Nat.le_refl _) _
    have hz' : (W.alloc (.cells #[.bool false] 4)).heap.size = w.heap.size + 4 := by simp; omega
    have hok : (W.alloc (.cells #[.bool false] 4)).heap[W.heap.size]? = some (.cells #[.bool false] 4) := heap_alloc_new _ _
    have hb9 := hb8.alloc (by omega) (.cells #[.bool false] 4)
    refine (ft_closure w.heap.size (w.heap.size + 1) (w.heap.size + 2) b1 b2 _ (o0.below hb5).cell (o1.below hb5).cell (R.out.1.below hb9) (R.out.2.below hb9) (o2.below hb5)).mono ?_
    rintro e wx ⟨rfl, d, dcap, p1, p2, p3, hs, hh, ho⟩
    refine ⟨rfl, ⟨d, dcap, p1, p2, by omega, ⟨ho.1.trans hb9.os, ho.2.1.trans hb9.tape, ho.2.2.trans hb9.output, by omega, fun k hk => by rw [hh k (by omega) (by omega)]; exact hb9.block k hk⟩, by omega⟩, ?_⟩
    rw [hh W.heap.size (by omega) (by omega)]; exact hok
  · rintro e w' ⟨rfl, wx, ⟨d, dcap, p1, p2, p3, hbx, hlt⟩, hh, rfl⟩
    have s1 := (p1.other (c := W.heap.size) (j := 0) (by omega) (.bool true)).other (c := W.heap.size) (j := 0) (by omega) (.bool true)
    have s2 := (p2.other (c := W.heap.size) (j := 0) (y := .bool true) (by omega)).other (c := W.heap.size) (j := 0) (y := .bool true) (by omega)
    have hb7 := (hbx.setCell (p := ⟨W.heap.size, 0, none⟩) (by simp; omega) (.bool true)).setCell (p := ⟨W.heap.size, 0, none⟩) (by simp; omega) (.bool true)
    generalize (wx.setCell ⟨W.heap.size, 0, none⟩ (.bool true)).setCell ⟨W.heap.size, 0, none⟩ (.bool true) = W5 at *
    obtain ⟨A3, hA3⟩ : ∃ a, w.heap.size + 1 + 1 = a := ⟨_, rfl⟩
    have s1' : One W5 A3 (.slice (some ⟨d, 0, none⟩) 1 dcap) := hA3 ▸ s1
    rw [hA3]
    have c3 := s1'.cell
    have f3 := s1'.free
    have H := Lib.hid (And.intro s2 hb7)
    have e3 := setCell_id c3
    clear s1 s1' s2 p1 p2 p3 hbx hlt hh hb7 hb8 hz o0 o1 o2 hmf R hA3
    go_wp2
    first | exact bodyPost_ret (v := .slice (some ⟨d, 0, none⟩) 1 dcap) (by simp [results, Tryz.results12, go_sem, c3, e3]) rfl ⟨d, dcap, rfl, H.out.1, H.out.2⟩ | (rw [e3]; exact bodyPost_ret (v := .slice (some ⟨d, 0, none⟩) 1 dcap) (by simp [results, Tryz.results12, go_sem, c3]) rfl ⟨d, dcap, rfl, H.out.1, H.out.2⟩)

set_option maxRecDepth 50000 in
set_option maxHeartbeats 4000000 in
theorem alive (w : World) : Calls Tryz.prog 8 #[] w fun x w' => x = .returned (.bool true) ∧ Below w.heap.size w w' := by
  have hb := allocs_below [.cells (dataRow sAbC 2 5 1 0 false) 37, .cells filtRow 30] w w.heap.size (Nat.le_refl _)
  have r1 : RowAt (allocs w [.cells (dataRow sAbC 2 5 1 0 false) 37, .cells filtRow 30]) w.heap.size (dataRow sAbC 2 5 1 0 false) := allocs_row (i := 0) rfl rfl
  have r2 : RowAt (allocs w [.cells (dataRow sAbC 2 5 1 0 false) 37, .cells filtRow 30]) (w.heap.size + 1) filtRow := allocs_row (i := 1) rfl rfl
  have HB := Lib.hid hb
  have F := Lib.hid (filtered w.heap.size (w.heap.size + 1) _ r1 r2)
  clear hb r1 r2
  go_enter Tryz.func8, Tryz.ntmps8
  go_wp2_with fail
  change Calls _ _ _ (allocs w [.cells (dataRow sAbC 2 5 1 0 false) 37, .cells filtRow 30]) _
  generalize allocs w [.cells (dataRow sAbC 2 5 1 0 false) 37, .cells filtRow 30] = W0 at *
  refine F.out.mono ?_
  rintro x w1 ⟨d, dcap, rfl, hc1, hb1⟩
  have HB1 := Lib.hid (HB.out.trans (hb1.mono HB.out.size))
  have C1 := Lib.hid hc1
  clear hb1 hc1
  go_wp2_with fail
  refine (tokens_space ⟨#[]⟩ w1).mono ?_
  rintro x w2 ⟨d2, dcap2, rfl, hc2, hb2⟩
  have HB2 := Lib.hid (HB1.out.trans (hb2.mono HB1.out.size))
  have hc1 := C1.out.below hb2
  have a0 : w2.cell? ⟨d, 0, none⟩ = some (.string ⟨#[97, 98, 99]⟩) := hc1 0 _ rfl
  have a1 : w2.cell? ⟨d, 1, none⟩ = some (.int .i64 2) := hc1 1 _ rfl
  have a2 : w2.cell? ⟨d, 2, none⟩ = some (.int .i64 5) := hc1 2 _ rfl
  have a3 : w2.cell? ⟨d, 3, none⟩ = some (.int .i64 1) := hc1 3 _ rfl
  have a4 : w2.cell? ⟨d, 4, none⟩ = some (.int .i64 0) := hc1 4 _ rfl
  have a5 : w2.cell? ⟨d, 5, none⟩ = some (.bool false) := hc1 5 _ rfl
  have b0 : w2.cell? ⟨d2, 6, none⟩ = some (.string ⟨#[98]⟩) := hc2 6 _ rfl
  have b1 : w2.cell? ⟨d2, 7, none⟩ = some (.int .i64 2) := hc2 7 _ rfl
  have b2 : w2.cell? ⟨d2, 8, none⟩ = some (.int .i64 3) := hc2 8 _ rfl
  have b3 : w2.cell? ⟨d2, 9, none⟩ = some (.int .i64 2) := hc2 9 _ rfl
  have b4 : w2.cell? ⟨d2, 10, none⟩ = some (.int .i64 0) := hc2 10 _ rfl
  have b5 : w2.cell? ⟨d2, 11, none⟩ = some (.bool false) := hc2 11 _ rfl
  clear hb2 hc1 hc2 C1 F
  go_wp2
  go_ret
  exact ⟨rfl, HB2.out⟩

theorem neq_data (s : ByteArray) (a b c d : Int) (k : Bool) (w : World) : (binOp .neq 37 (.agg #[.string s, .int .i64 a, .int .i64 b, .int .i64 c, .int .i64 d, .bool k]) (.agg #[.string s, .int .i64 a, .int .i64 b, .int .i64 c, .int .i64 d, .bool k])).run Tryz.prog w = .ok (.bool false) w := by
  simp [go_sem]
theorem equal_tokens (d h cap1 cap2 : Nat) (s : ByteArray) (a b c e : Int) (k : Bool) (w : World) (h1 : RowAt w d (dataRow s a b c e k)) (h2 : RowAt w h (dataRow s a b c e k)) :
    Calls Tryz.prog 11 #[.slice (some ⟨d, 0, none⟩) 1 cap1, .slice (some ⟨h, 0, none⟩) 1 cap2] w fun x w' => x = .returned (.bool true) ∧ Below w.heap.size w w' := by
  have a0 : w.cell? ⟨d, 0, none⟩ = some (.string s) := h1 0 _ rfl
  have a1 : w.cell? ⟨d, 1, none⟩ = some (.int .i64 a) := h1 1 _ rfl
  have a2 : w.cell? ⟨d, 2, none⟩ = some (.int .i64 b) := h1 2 _ rfl
  have a3 : w.cell? ⟨d, 3, none⟩ = some (.int .i64 c) := h1 3 _ rfl
  have a4 : w.cell? ⟨d, 4, none⟩ = some (.int .i64 e) := h1 4 _ rfl
  have a5 : w.cell? ⟨d, 5, none⟩ = some (.bool k) := h1 5 _ rfl
  have b0 : w.cell? ⟨h, 0, none⟩ = some (.string s) := h2 0 _ rfl
  have b1 : w.cell? ⟨h, 1, none⟩ = some (.int .i64 a) := h2 1 _ rfl
  have b2 : w.cell? ⟨h, 2, none⟩ = some (.int .i64 b) := h2 2 _ rfl
  have b3 : w.cell? ⟨h, 3, none⟩ = some (.int .i64 c) := h2 3 _ rfl
  have b4 : w.cell? ⟨h, 4, none⟩ = some (.int .i64 e) := h2 4 _ rfl
  have b5 : w.cell? ⟨h, 5, none⟩ = some (.bool k) := h2 5 _ rfl
  have hne := neq_data s a b c e k
  clear h1 h2
  go_enter Tryz.func11, Tryz.ntmps11
  go_wp2
  refine wp_loop_rounds 2 ?_
  simp only [rounds_succ]
  go_wp2_with fail
  go_quiet (fail)
  go_wp2_with fail
  simp only [rounds_succ]
  go_wp2
  go_ret
  exact ⟨rfl, below_drewN (Below.refl _ _) _⟩
end Go.Proofs.YtigpnpdpokgmkaaGreat
