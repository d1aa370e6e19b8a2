/- The contracts of impl.PrefixInt and impl.PrefixShift at a coded number whose shift is below 63, and of numberAwake. -/
import Derived.Test.YtkhmomagjkdcdaaDoorBack
set_option linter.unusedVariables false
set_option linter.unusedSimpArgs false
namespace Go.Proofs.YtkhmomagjkdcdaaDoor
open Go.RowKit

set_option maxHeartbeats 400000 in
theorem int_closure (n s : Int) (hn0 : -9223372036854775808 ≤ n) (hn1 : n ≤ 9223372036854775807) (hs0 : 0 ≤ s) (hs1 : s < 63) (b cap : Nat) (w : World) (l : List Int) (hl : l = pbytes n s)
    (hcap : l.length ≤ cap) (hm : cap ≤ 9223372036854775807) (hc : ∀ i, i < l.length → w.cell? ⟨b, i, none⟩ = some (.int .u8 (l.getD i 0)))
    (a0 a1 a2 : Nat) (x1 x2 : Value) (c0 : w.cell? ⟨a0, 0, none⟩ = some (.slice (some ⟨b, 0, none⟩) l.length cap)) (c1 : w.cell? ⟨a1, 0, none⟩ = some x1) (c2 : w.cell? ⟨a2, 0, none⟩ = some x2)
    (f1 : w.frozen? ⟨a1, 0, none⟩ = false) (f2 : w.frozen? ⟨a2, 0, none⟩ = false) (hne : a1 ≠ a2) :
    Calls Tryd.prog 35 #[.pointer (some ⟨a0, 0, none⟩), .pointer (some ⟨a1, 0, none⟩), .pointer (some ⟨a2, 0, none⟩)] w fun e w' =>
      e = .returned (.tuple #[]) ∧ ∃ d, w' = ((w.setCell ⟨a1, 0, none⟩ (.int .i64 (n / 2 ^ s.toNat * 2 ^ s.toNat))).setCell ⟨a2, 0, none⟩ (.bool true)).drewN d := by
  have HI := Lib.hid (int64_any n s hn0 hn1 hs0 hs1 b cap w l hl hcap hm hc)
  have HL := Lib.hid hl
  have HC := Lib.hid hc
  clear hl hc
  go_enter Tryd.func35, Tryd.ntmps35
  go_wp2_with fail
  refine HI.out.mono ?_
  rintro e w' ⟨rfl, rfl⟩
  go_wp2_with fail
  go_region
  all_goals (go_end0; exact ⟨rfl, 1, rfl⟩)

theorem enter35 (cap : Array Value) (w : World) : (callFunc 35 cap).run Tryd.prog w = .ok (.enter 35 cap) w := by kernel_rfl

set_option maxHeartbeats 400000 in
theorem impl_int (n s : Int) (hn0 : -9223372036854775808 ≤ n) (hn1 : n ≤ 9223372036854775807) (hs0 : 0 ≤ s) (hs1 : s < 63) (v : Value) (w : World) (h : ByteSl w v (pbytes n s)) :
    Calls Tryd.prog 22 #[v] w fun e w' => e = .returned (.tuple #[.int .i64 (n / 2 ^ s.toNat * 2 ^ s.toNat), .bool true]) ∧ Below w.heap.size w w' := by
  obtain ⟨b, cap, rfl, hcap, hm, hc⟩ := h
  unfold maxLen at hm
  generalize hl : pbytes n s = l at *
  have HL := Lib.hid hl
  have HC := Lib.hid hc
  clear hl hc
  have hmf : ∀ (fn : Fn) (first cap : Array Value) (w : World), (Instr.makeFunc fn first cap).run Tryd.prog w = .ok (.func fn first cap) w := fun _ _ _ _ => rfl
  go_enter Tryd.func22, Tryd.ntmps22
  go_wp2_with fail
  have o0 : One (((w.alloc (.cells #[.slice (some ⟨b, 0, none⟩) l.length cap] 23)).alloc (.cells #[.int .i64 0] 2)).alloc (.cells #[.bool false] 4)) w.heap.size (.slice (some ⟨b, 0, none⟩) l.length cap) := ((One.new w _ _).alloc _).alloc _
  have o1 : One (((w.alloc (.cells #[.slice (some ⟨b, 0, none⟩) l.length cap] 23)).alloc (.cells #[.int .i64 0] 2)).alloc (.cells #[.bool false] 4)) (w.heap.size + 1) (.int .i64 0) := by have := (One.new (w.alloc (.cells #[.slice (some ⟨b, 0, none⟩) l.length cap] 23)) (.int .i64 0) 2).alloc (.cells #[.bool false] 4); simpa using this
  have o2 : One (((w.alloc (.cells #[.slice (some ⟨b, 0, none⟩) l.length cap] 23)).alloc (.cells #[.int .i64 0] 2)).alloc (.cells #[.bool false] 4)) (w.heap.size + 1 + 1) (.bool false) := by have := One.new ((w.alloc (.cells #[.slice (some ⟨b, 0, none⟩) l.length cap] 23)).alloc (.cells #[.int .i64 0] 2)) (.bool false) 4; simpa using this
  have hB : Below w.heap.size w (((w.alloc (.cells #[.slice (some ⟨b, 0, none⟩) l.length cap] 23)).alloc (.cells #[.int .i64 0] 2)).alloc (.cells #[.bool false] 4)) := (((Below.refl _ _).alloc (Nat.le_refl _) _).alloc (by simp) _).alloc (by simp; omega) _
  generalize hW : (((w.alloc (.cells #[.slice (some ⟨b, 0, none⟩) l.length cap] 23)).alloc (.cells #[.int .i64 0] 2)).alloc (.cells #[.bool false] 4)) = W3 at *
  have hsz : W3.heap.size = w.heap.size + 3 := by rw [← hW]; simp
  refine (safe_any 35 _ W3 (fun w2 => One w2 (w.heap.size + 1) (.int .i64 (n / 2 ^ s.toNat * 2 ^ s.toNat)) ∧ One w2 (w.heap.size + 1 + 1) (.bool true) ∧ Below w.heap.size w w2 ∧ W3.heap.size < w2.heap.size) (fun w => enter35 _ w) ?_).mono ?_
  · have hb2 : Below W3.heap.size W3 (W3.alloc (.cells #[.bool false] 4)) := (Below.refl _ _).alloc (Nat.le_refl _) _
    have p0 := o0.below hb2
    have p1 := o1.below hb2
    have p2 := o2.below hb2
    refine (int_closure n s hn0 hn1 hs0 hs1 b cap _ l HL.out.symm hcap hm (fun i hi => cell_alloc (cell_below hB (World.block_lt_of_cell? w _ (HC.out i hi)) (HC.out i hi)) _) w.heap.size (w.heap.size + 1) (w.heap.size + 1 + 1) _ _ p0.cell p1.cell p2.cell p1.free p2.free (by omega)).mono ?_
    rintro e w2 ⟨rfl, d, rfl⟩
    refine ⟨rfl, ⟨((p1.set _).other (by omega) _).drewN d, ((p2.other (by omega) _).set _).drewN d, ?_, ?_⟩, ?_⟩
    · exact below_drewN (((hB.alloc (by omega) (.cells #[.bool false] 4)).setCell (p := ⟨w.heap.size + 1, 0, none⟩) (by simp) (.int .i64 (n / 2 ^ s.toNat * 2 ^ s.toNat))).setCell (p := ⟨w.heap.size + 1 + 1, 0, none⟩) (by simp; omega) (.bool true)) d
    · simp [World.setCell]
    · rw [World.heap_drewN, Below.heap_setCell _ _ _ _ (by simp; omega), Below.heap_setCell _ _ _ _ (by simp; omega)]; exact heap_alloc_new _ _
  · rintro e w' ⟨rfl, w2, ⟨q1, q2, hb2, hlt⟩, hh, rfl⟩
    have r1 := (q1.other (c := W3.heap.size) (j := 0) (by omega) (.bool true)).other (c := W3.heap.size) (j := 0) (by omega) (.bool true)
    have r2 := (q2.other (c := W3.heap.size) (j := 0) (by omega) (.bool true)).other (c := W3.heap.size) (j := 0) (by omega) (.bool true)
    have hb4 := (hb2.setCell (p := ⟨W3.heap.size, 0, none⟩) (by simp; omega) (.bool true)).setCell (p := ⟨W3.heap.size, 0, none⟩) (by simp; omega) (.bool true)
    generalize (w2.setCell ⟨W3.heap.size, 0, none⟩ (.bool true)).setCell ⟨W3.heap.size, 0, none⟩ (.bool true) = W4 at *
    have e1 := r1.cell
    have e2 := r2.cell
    have g1 := r1.free
    have g2 := r2.free
    have k1 := (r1.set (.int .i64 (n / 2 ^ s.toNat * 2 ^ s.toNat))).other (b := w.heap.size + 1) (c := w.heap.size + 1 + 1) (j := 0) (by omega) (.bool true)
    have k2 := ((r2.other (c := w.heap.size + 1) (j := 0) (by omega) (.int .i64 (n / 2 ^ s.toNat * 2 ^ s.toNat))).set (.bool true))
    have HB4 := Lib.hid hb4
    clear hb4 hb2 q1 q2 hh hlt hsz hW hB r1 r2 o0 o1 o2
    have t1 := k1.cell
    have t2 := k2.cell
    clear k1 k2
    go_wp2
    exact bodyPost_ret (v := .tuple #[.int .i64 (n / 2 ^ s.toNat * 2 ^ s.toNat), .bool true]) (by simp [results, Tryd.results22, go_sem, t1, t2]) rfl ⟨rfl, (HB4.out.setCell (by simp) _).setCell (by simp; omega) _⟩

set_option maxHeartbeats 400000 in
theorem awake (w : World) (ht : Tabs w) : Calls Tryd.prog 10 #[] w fun e w' => e = .returned (.bool true) ∧ Below w.heap.size w w' := by
  have HT := Lib.hid ht
  clear ht
  have hlen : (pbytes 5 0).length = 11 := by rw [pbytes_length]; rfl
  go_enter Tryd.func10, Tryd.ntmps10
  go_wp2_with fail
  refine (impl_new 5 0 (by omega) (by omega) (by omega) (by omega) w).mono ?_
  rintro e w1 ⟨v, rfl, hv, hb1⟩
  have HV := Lib.hid hv
  have HB1 := Lib.hid hb1
  have HT1 := Lib.hid (HT.out.below hb1)
  obtain ⟨b, cap, rfl, _⟩ := hv
  clear hb1
  go_wp2_with fail
  refine (impl_int 5 0 (by omega) (by omega) (by omega) (by omega) _ w1 HV.out).mono ?_
  rintro e w2 ⟨rfl, hb2⟩
  have HB2 := Lib.hid ((HB1.out).trans (hb2.mono HB1.out.size))
  have HT2 := Lib.hid (HT1.out.below hb2)
  clear hb2
  go_wp2_with fail
  refine (impl_weave 3 0 w2 HT2.out).mono ?_
  rintro e w3 ⟨rfl, rfl⟩
  rw [il_awake]
  go_wp2
  go_ret
  exact ⟨by simp, HB2.out⟩
end Go.Proofs.YtkhmomagjkdcdaaDoor
