/- The contract of impl.PrefixInt at a coded number whose shift is 63: no number. -/
import Derived.Test.YtkhmomagjkdcdaaDoorAwake
import Derived.Test.YtkhmomagjkdcdaaDoorErr
set_option linter.unusedVariables false
set_option linter.unusedSimpArgs false
namespace Go.Proofs.YtkhmomagjkdcdaaDoor
open Go.RowKit

set_option maxHeartbeats 400000 in
theorem shift_bad (l : List Int) (b cap : Nat) (w : World) (hl : 0 < l.length) (h0 : w.cell? ⟨b, 0, none⟩ = some (.int .u8 95)) :
    Calls Tryd.prog 38 #[.slice (some ⟨b, 0, none⟩) l.length cap] w fun e w' => ∃ g, e = .returned (.tuple #[.int .u64 0, .iface 72 (.pointer (some ⟨g, 0, none⟩))]) ∧ Below w.heap.size w w' := by
  go_enter Tryd.func38, Tryd.ntmps38
  go_wp2_with fail
  refine (errors_new _ w).mono ?_
  rintro e w' ⟨rfl, rfl⟩
  go_wp2
  go_ret2
  exact ⟨_, rfl, (Below.refl _ _).alloc (Nat.le_refl _) _⟩

set_option maxHeartbeats 400000 in
theorem int64_bad (l : List Int) (b cap : Nat) (w : World) (hl : 0 < l.length) (h0 : w.cell? ⟨b, 0, none⟩ = some (.int .u8 95)) :
    Calls Tryd.prog 36 #[.slice (some ⟨b, 0, none⟩) l.length cap] w fun e w' => ∃ g, e = .returned (.tuple #[.int .i64 0, .iface 72 (.pointer (some ⟨g, 0, none⟩))]) ∧ Below w.heap.size w w' := by
  go_enter Tryd.func36, Tryd.ntmps36
  go_wp2_with fail
  refine (shift_bad l b cap w hl h0).mono ?_
  rintro e w' ⟨g, rfl, hb⟩
  have HB := Lib.hid hb
  clear hb h0
  go_wp2
  go_ret2
  exact ⟨_, rfl, HB.out⟩

set_option maxHeartbeats 400000 in
theorem bad_closure (l : List Int) (b cap : Nat) (w : World) (hl : 0 < l.length) (h0 : w.cell? ⟨b, 0, none⟩ = some (.int .u8 95))
    (a0 a1 a2 : Nat) (x1 x2 : Value) (c0 : w.cell? ⟨a0, 0, none⟩ = some (.slice (some ⟨b, 0, none⟩) l.length cap)) (o1 : One w a1 x1) (o2 : One w a2 x2) (hne : a1 ≠ a2) :
    Calls Tryd.prog 35 #[.pointer (some ⟨a0, 0, none⟩), .pointer (some ⟨a1, 0, none⟩), .pointer (some ⟨a2, 0, none⟩)] w fun e w' =>
      e = .returned (.tuple #[]) ∧ ∃ w1 d, Below w.heap.size w w1 ∧ w' = ((w1.setCell ⟨a1, 0, none⟩ (.int .i64 0)).setCell ⟨a2, 0, none⟩ (.bool false)).drewN d := by
  have HI := Lib.hid (int64_bad l b cap w hl h0)
  have HO1 := Lib.hid o1
  have HO2 := Lib.hid o2
  clear h0 o1 o2
  go_enter Tryd.func35, Tryd.ntmps35
  go_wp2_with fail
  refine HI.out.mono ?_
  rintro e w1 ⟨g, rfl, hb⟩
  obtain ⟨c1, f1⟩ := HO1.out.below hb
  obtain ⟨c2, f2⟩ := HO2.out.below hb
  have HB := Lib.hid hb
  clear hb c0
  go_wp2_with fail
  go_region
  all_goals (go_end0; exact ⟨rfl, w1, 1, HB.out, rfl⟩)

set_option maxHeartbeats 400000 in
theorem impl_int_bad (n : Int) (v : Value) (w : World) (h : ByteSl w v (pbytes n 63)) :
    Calls Tryd.prog 22 #[v] w fun e w' => e = .returned (.tuple #[.int .i64 0, .bool false]) ∧ Below w.heap.size w w' := by
  obtain ⟨b, cap, rfl, hcap, hm, hc⟩ := h
  have hlen : 0 < (pbytes n 63).length := by rw [pbytes_length]; omega
  have h0 : w.cell? ⟨b, 0, none⟩ = some (.int .u8 95) := by rw [hc 0 hlen, pbytes_zero]; rfl
  clear hc hcap hm
  generalize pbytes n 63 = l at *
  have HC := Lib.hid h0
  clear h0
  have hmf : ∀ (fn : Fn) (first cap : Array Value) (w : World), (Instr.makeFunc fn first cap).run Tryd.prog w = .ok (.func fn first cap) w := fun _ _ _ _ => rfl
  go_enter Tryd.func22, Tryd.ntmps22
  go_wp2_with fail
  have o0 : One (((w.alloc (.cells #[.slice (some ⟨b, 0, none⟩) l.length cap] 23)).alloc (.cells #[.int .i64 0] 2)).alloc (.cells #[.bool false] 4)) w.heap.size (.slice (some ⟨b, 0, none⟩) l.length cap) := ((One.new w _ _).alloc _).alloc _
  have o1 : One (((w.alloc (.cells #[.slice (some ⟨b, 0, none⟩) l.length cap] 23)).alloc (.cells #[.int .i64 0] 2)).alloc (.cells #[.bool false] 4)) (w.heap.size + 1) (.int .i64 0) := by have := (One.new (w.alloc (.cells #[.slice (some ⟨b, 0, none⟩) l.length cap] 23)) (.int .i64 0) 2).alloc (.cells #[.bool false] 4); simpa using this
  have o2 : One (((w.alloc (.cells #[.slice (some ⟨b, 0, none⟩) l.length cap] 23)).alloc (.cells #[.int .i64 0] 2)).alloc (.cells #[.bool false] 4)) (w.heap.size + 1 + 1) (.bool false) := by have := One.new ((w.alloc (.cells #[.slice (some ⟨b, 0, none⟩) l.length cap] 23)).alloc (.cells #[.int .i64 0] 2)) (.bool false) 4; simpa using this
  have hB : Below w.heap.size w (((w.alloc (.cells #[.slice (some ⟨b, 0, none⟩) l.length cap] 23)).alloc (.cells #[.int .i64 0] 2)).alloc (.cells #[.bool false] 4)) := (((Below.refl _ _).alloc (Nat.le_refl _) _).alloc (by simp) _).alloc (by simp; omega) _
  generalize hW : (((w.alloc (.cells #[.slice (some ⟨b, 0, none⟩) l.length cap] 23)).alloc (.cells #[.int .i64 0] 2)).alloc (.cells #[.bool false] 4)) = W3 at *
  have hsz : W3.heap.size = w.heap.size + 3 := by rw [← hW]; simp
  refine (safe_any 35 _ W3 (fun w2 => One w2 (w.heap.size + 1) (.int .i64 0) ∧ One w2 (w.heap.size + 1 + 1) (.bool false) ∧ Below w.heap.size w w2 ∧ W3.heap.size < w2.heap.size) (fun w => enter35 _ w) ?_).mono ?_
  · have hb2 : Below W3.heap.size W3 (W3.alloc (.cells #[.bool false] 4)) := (Below.refl _ _).alloc (Nat.le_refl _) _
    have p0 := o0.below hb2
    have p1 := o1.below hb2
    have p2 := o2.below hb2
    refine (bad_closure l b cap _ hlen (cell_alloc (cell_below hB (World.block_lt_of_cell? w _ HC.out) HC.out) _) w.heap.size (w.heap.size + 1) (w.heap.size + 1 + 1) _ _ p0.cell p1 p2 (by omega)).mono ?_
    rintro e w2 ⟨rfl, w1, d, hb3, rfl⟩
    have hz := hb3.size
    have hz2 : (W3.alloc (.cells #[.bool false] 4)).heap.size = w.heap.size + 4 := by simp; omega
    refine ⟨rfl, ⟨(((p1.below hb3).set _).other (by omega) _).drewN d, (((p2.below hb3).other (by omega) _).set _).drewN d, ?_, ?_⟩, ?_⟩
    · exact below_drewN ((((hB.alloc (by omega) (.cells #[.bool false] 4)).trans (hb3.mono (by omega))).setCell (p := ⟨w.heap.size + 1, 0, none⟩) (by simp) (.int .i64 0)).setCell (p := ⟨w.heap.size + 1 + 1, 0, none⟩) (by simp; omega) (.bool false)) d
    · simp [World.setCell]; omega
    · rw [World.heap_drewN, Below.heap_setCell _ _ _ _ (by simp; omega), Below.heap_setCell _ _ _ _ (by simp; omega), hb3.block _ (by omega)]; exact heap_alloc_new _ _
  · rintro e w' ⟨rfl, w2, ⟨q1, q2, hb2, hlt⟩, hh, rfl⟩
    have r1 := (q1.other (c := W3.heap.size) (j := 0) (by omega) (.bool true)).other (c := W3.heap.size) (j := 0) (by omega) (.bool true)
    have r2 := (q2.other (c := W3.heap.size) (j := 0) (by omega) (.bool true)).other (c := W3.heap.size) (j := 0) (by omega) (.bool true)
    have hb4 := (hb2.setCell (p := ⟨W3.heap.size, 0, none⟩) (by simp; omega) (.bool true)).setCell (p := ⟨W3.heap.size, 0, none⟩) (by simp; omega) (.bool true)
    generalize (w2.setCell ⟨W3.heap.size, 0, none⟩ (.bool true)).setCell ⟨W3.heap.size, 0, none⟩ (.bool true) = W4 at *
    have e1 := r1.cell
    have e2 := r2.cell
    have g1 := r1.free
    have g2 := r2.free
    have k1 := (r1.set (.int .i64 0)).other (b := w.heap.size + 1) (c := w.heap.size + 1 + 1) (j := 0) (by omega) (.bool false)
    have k2 := ((r2.other (c := w.heap.size + 1) (j := 0) (by omega) (.int .i64 0)).set (.bool false))
    have HB4 := Lib.hid hb4
    clear hb4 hb2 q1 q2 hh hlt hsz hW hB r1 r2 o0 o1 o2
    have t1 := k1.cell
    have t2 := k2.cell
    clear k1 k2
    go_wp2
    exact bodyPost_ret (v := .tuple #[.int .i64 0, .bool false]) (by simp [results, Tryd.results22, go_sem, t1, t2]) rfl ⟨rfl, (HB4.out.setCell (by simp) _).setCell (by simp; omega) _⟩
end Go.Proofs.YtkhmomagjkdcdaaDoor
