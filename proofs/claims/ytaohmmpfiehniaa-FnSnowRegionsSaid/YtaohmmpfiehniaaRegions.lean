/- The contract of impl.SnowRegions. -/
import Derived.Test.YtaohmmpfiehniaaTails
set_option linter.unusedVariables false
set_option linter.unusedSimpArgs false
namespace Go.Proofs.Ytaohmmpfiehniaa
open Go.RowKit

def FitAt (w : World) (p : Nat) (cs : Array Value) : Prop := w.heap[p]? = some (.cells cs 49 (0, 0))
theorem FitAt.below {w w1 : World} {p : Nat} {cs : Array Value} (h : FitAt w p cs) (hb : Below w.heap.size w w1) : FitAt w1 p cs := by
  unfold FitAt at h ⊢
  rw [hb.block p (by have := (Array.getElem?_eq_some_iff.1 h).1; exact this)]; exact h
theorem FitAt.row {w : World} {p : Nat} {cs : Array Value} (h : FitAt w p cs) : RowAt w p cs := by
  intro i x hx; unfold World.cell?; rw [show w.heap[(⟨p, i, none⟩ : Addr).block]? = _ from h]; simpa using hx
theorem FitAt.free {w : World} {p : Nat} {cs : Array Value} (h : FitAt w p cs) (i : Nat) : w.frozen? ⟨p, i, none⟩ = false := by
  unfold World.frozen?; rw [show w.heap[(⟨p, i, none⟩ : Addr).block]? = _ from h]; simp
theorem FitAt.other {w : World} {p : Nat} {cs : Array Value} (h : FitAt w p cs) {c j : Nat} (hn : p ≠ c) (y : Value) : FitAt (w.setCell ⟨c, j, none⟩ y) p cs := by
  unfold FitAt at h ⊢; rw [Below.heap_setCell _ _ _ _ (by simpa using hn)]; exact h
theorem FitAt.set {w : World} {p : Nat} {cs : Array Value} (h : FitAt w p cs) (i : Nat) (y : Value) : FitAt (w.setCell ⟨p, i, none⟩ y) p (cs.setIfInBounds i y) := by
  unfold FitAt at h ⊢
  simp only [World.setCell]
  rw [Array.getElem?_modify]
  simp [h]
theorem FitAt.set3 {w : World} {p : Nat} {x0 x1 x2 : Value} (h : FitAt w p #[x0, x1, x2]) (y0 y1 y2 : Value) : FitAt (((w.setCell ⟨p, 0, none⟩ y0).setCell ⟨p, 1, none⟩ y1).setCell ⟨p, 2, none⟩ y2) p #[y0, y1, y2] :=
  ((h.set 0 y0).set 1 y1).set 2 y2

set_option maxHeartbeats 2000000 in
theorem rg_closure (s : ByteArray) (rs : List Int) (hrs : Runes s rs) (k1 k2 k3 : Nat) (h1 : k1 ≤ rs.length) (h2 : k2 ≤ rs.length) (h3 : k3 ≤ rs.length) (hn : rs.length ≤ 2147483647) (x m : Int) (hx : 0 ≤ x ∧ x ≤ 255) (hm : ((rs.length : Nat) : Int) - x = m)
    (t1 t2 t3 : ByteArray) (ht1 : runesBytes (rs.drop k1) = t1) (ht2 : runesBytes (rs.drop k2) = t2) (ht3 : runesBytes (rs.drop k3) = t3) (d1 d2 d3 : Bool) (hd1 : decide ((k1 : Int) ≤ m) = d1) (hd2 : decide ((k2 : Int) ≤ m) = d2) (hd3 : decide ((k3 : Int) ≤ m) = d3)
    (a0 a1 a2 a3 a4 a5 : Nat) (w : World) (hs : RowAt w a0 #[.string s, .int .i64 k1, .int .i64 k2, .int .i64 k3]) (hxc : w.cell? ⟨a4, 0, none⟩ = some (.int .i64 x))
    (x1 x2 x3 z0 z1 z2 : Value) (o1 : One w a1 x1) (o2 : One w a2 x2) (o3 : One w a3 x3) (o5 : FitAt w a5 #[z0, z1, z2])
    (n12 : a1 ≠ a2) (n13 : a1 ≠ a3) (n23 : a2 ≠ a3) (n15 : a1 ≠ a5) (n25 : a2 ≠ a5) (n35 : a3 ≠ a5) (n41 : a4 ≠ a1) (n42 : a4 ≠ a2) (n43 : a4 ≠ a3) (n45 : a4 ≠ a5) :
    Calls Try.prog 49 #[.pointer (some ⟨a0, 0, none⟩), .pointer (some ⟨a1, 0, none⟩), .pointer (some ⟨a2, 0, none⟩), .pointer (some ⟨a3, 0, none⟩), .pointer (some ⟨a4, 0, none⟩), .pointer (some ⟨a5, 0, none⟩)] w fun e w' =>
      e = .returned (.tuple #[]) ∧ One w' a1 (.string t1) ∧ One w' a2 (.string t2) ∧ One w' a3 (.string t3) ∧
      FitAt w' a5 #[.bool d1, .bool d2, .bool d3] ∧ w.heap.size ≤ w'.heap.size ∧ (∀ k, k < w.heap.size → k ≠ a1 → k ≠ a2 → k ≠ a3 → k ≠ a5 → w'.heap[k]? = w.heap[k]?) ∧ w'.os = w.os ∧ w'.tape = w.tape ∧ w'.output = w.output := by
  have e0 : w.cell? ⟨a0, 0, none⟩ = some (.string s) := hs 0 _ rfl
  have e1 : w.cell? ⟨a0, 1, none⟩ = some (.int .i64 k1) := hs 1 _ rfl
  have e2 : w.cell? ⟨a0, 2, none⟩ = some (.int .i64 k2) := hs 2 _ rfl
  have e3 : w.cell? ⟨a0, 3, none⟩ = some (.int .i64 k3) := hs 3 _ rfl
  clear hs
  have l1 := o1.lt
  have l2 := o2.lt
  have l3 := o3.lt
  have l4 := World.block_lt_of_cell? w _ hxc
  have l5 : a5 < w.heap.size := (Array.getElem?_eq_some_iff.1 (show w.heap[a5]? = _ from o5)).1
  have O := Lib.hid (And.intro hxc (And.intro o1 (And.intro o2 (And.intro o3 o5))))
  clear hxc o1 o2 o3 o5
  go_enter Try.func49, Try.ntmps49
  go_wp2_with fail
  refine (word_of s rs hrs k1 k2 k3 w).mono ?_
  rintro y w1 ⟨p, b, cap, rfl, hw, hr, hcap, hmax, hpb, hp, hb, hb1⟩
  obtain ⟨hxc, o1, o2, o3, o5⟩ := O.out
  have T1 := Lib.hid (text_r1 p b cap k1 k2 k3 rs w1 hw hr h1 hcap hmax)
  have T2 := Lib.hid (fun d => text_r2 p b cap k2 k1 k3 rs (w1.drewN d) hw hr h2 hcap hmax)
  have T3 := Lib.hid (fun d => text_rv p b cap k3 k1 k2 rs (w1.drewN d) hw hr h3 hcap hmax)
  rw [ht1] at T1
  rw [ht2] at T2
  rw [ht3] at T3
  have HW := Lib.hid hw
  have HB := Lib.hid hb1
  have O' := Lib.hid (And.intro (belowRow hb1 hxc) (And.intro (o1.below hb1) (And.intro (o2.below hb1) (And.intro (o3.below hb1) (o5.below hb1)))))
  have hsz := hb1.size
  clear e0 e1 e2 e3 hw hr hb1 hxc o1 o2 o3 o5 O hpb hcap hmax
  go_wp2_with fail
  refine T1.out.mono ?_
  rintro y w2 ⟨rfl, e1, rfl⟩
  go_wp2_with fail
  refine (T2.out e1).mono ?_
  rintro y w2 ⟨rfl, e2, rfl⟩
  rw [World.drewN_drewN]
  go_wp2_with fail
  refine (T3.out (e1 + e2)).mono ?_
  rintro y w2 ⟨rfl, e3, rfl⟩
  rw [World.drewN_drewN]
  obtain ⟨q4, q1, q2, q3, q5⟩ := O'.out
  have c1 : (w1.drewN (e1 + e2 + e3)).cell? ⟨a1, 0, none⟩ = some x1 := q1.cell
  have c2 : (w1.drewN (e1 + e2 + e3)).cell? ⟨a2, 0, none⟩ = some x2 := q2.cell
  have c3 : (w1.drewN (e1 + e2 + e3)).cell? ⟨a3, 0, none⟩ = some x3 := q3.cell
  have f1 : (w1.drewN (e1 + e2 + e3)).frozen? ⟨a1, 0, none⟩ = false := q1.free
  have f2 : (w1.drewN (e1 + e2 + e3)).frozen? ⟨a2, 0, none⟩ = false := q2.free
  have f3 : (w1.drewN (e1 + e2 + e3)).frozen? ⟨a3, 0, none⟩ = false := q3.free
  have W2w : WordAt (w1.drewN (e1 + e2 + e3)) p (wordRow b rs.length cap k1 k2 k3) := HW.out
  have W2b : Below w.heap.size w (w1.drewN (e1 + e2 + e3)) := below_drewN HB.out _
  have W2x : (w1.drewN (e1 + e2 + e3)).cell? ⟨a4, 0, none⟩ = some (.int .i64 x) := q4
  have W25 : FitAt (w1.drewN (e1 + e2 + e3)) a5 #[z0, z1, z2] := q5
  have o1 : One (w1.drewN (e1 + e2 + e3)) a1 x1 := ⟨q1.cell, q1.free⟩
  have o2 : One (w1.drewN (e1 + e2 + e3)) a2 x2 := ⟨q2.cell, q2.free⟩
  have o3 : One (w1.drewN (e1 + e2 + e3)) a3 x3 := ⟨q3.cell, q3.free⟩
  have hsz2 : (w1.drewN (e1 + e2 + e3)).heap.size = w1.heap.size := rfl
  have ALL := Lib.hid (And.intro W2w (And.intro W2b (And.intro W2x (And.intro W25 (And.intro o1 (And.intro o2 o3))))))
  clear q1 q2 q3 q4 q5 O' HW HB T1 T2 T3 W2w W2b W2x W25 o1 o2 o3
  generalize w1.drewN (e1 + e2 + e3) = w2 at *
  have c2' : (w2.setCell ⟨a1, 0, none⟩ (.string t1)).cell? ⟨a2, 0, none⟩ = some x2 := cell_other (Ne.symm n12) c2
  go_wp2_with fail
  obtain ⟨gw, gb, gx, g5, o1, o2, o3⟩ := ALL.out
  have G1 := ((o1.set (.string t1)).other (j := 0) n12 (.string t2)).other (j := 0) n13 (.string t3)
  have G2 := (((o2.other (Ne.symm n12) (.string t1)).set (.string t2)).other (j := 0) n23 (.string t3) : One (((w2.setCell ⟨a1, 0, none⟩ (.string t1)).setCell ⟨a2, 0, none⟩ (.string t2)).setCell ⟨a3, 0, none⟩ (.string t3)) a2 (.string t2))
  have G3 := ((((o3.other (Ne.symm n13) (.string t1)).other (Ne.symm n23) (.string t2)).set (.string t3)) : One (((w2.setCell ⟨a1, 0, none⟩ (.string t1)).setCell ⟨a2, 0, none⟩ (.string t2)).setCell ⟨a3, 0, none⟩ (.string t3)) a3 (.string t3))
  have GW := ((((gw.other (by omega) (.string t1)).other (by omega) (.string t2)).other (by omega) (.string t3)) : WordAt (((w2.setCell ⟨a1, 0, none⟩ (.string t1)).setCell ⟨a2, 0, none⟩ (.string t2)).setCell ⟨a3, 0, none⟩ (.string t3)) p (wordRow b rs.length cap k1 k2 k3))
  have G5 := ((((g5.other (Ne.symm n15) (.string t1)).other (Ne.symm n25) (.string t2)).other (Ne.symm n35) (.string t3)) : FitAt (((w2.setCell ⟨a1, 0, none⟩ (.string t1)).setCell ⟨a2, 0, none⟩ (.string t2)).setCell ⟨a3, 0, none⟩ (.string t3)) a5 #[z0, z1, z2])
  have GX := (cell_other n43 (cell_other n42 (cell_other n41 gx)) : (((w2.setCell ⟨a1, 0, none⟩ (.string t1)).setCell ⟨a2, 0, none⟩ (.string t2)).setCell ⟨a3, 0, none⟩ (.string t3)).cell? ⟨a4, 0, none⟩ = some (.int .i64 x))
  have GH : ∀ k, k < w.heap.size → k ≠ a1 → k ≠ a2 → k ≠ a3 → (((w2.setCell ⟨a1, 0, none⟩ (.string t1)).setCell ⟨a2, 0, none⟩ (.string t2)).setCell ⟨a3, 0, none⟩ (.string t3)).heap[k]? = w.heap[k]? := by
    intro k hk q1 q2 q3
    rw [Below.heap_setCell _ _ _ _ (by simpa using q3), Below.heap_setCell _ _ _ _ (by simpa using q2), Below.heap_setCell _ _ _ _ (by simpa using q1)]
    exact gb.block k hk
  have GO : (((w2.setCell ⟨a1, 0, none⟩ (.string t1)).setCell ⟨a2, 0, none⟩ (.string t2)).setCell ⟨a3, 0, none⟩ (.string t3)).os = w.os ∧ (((w2.setCell ⟨a1, 0, none⟩ (.string t1)).setCell ⟨a2, 0, none⟩ (.string t2)).setCell ⟨a3, 0, none⟩ (.string t3)).tape = w.tape ∧ (((w2.setCell ⟨a1, 0, none⟩ (.string t1)).setCell ⟨a2, 0, none⟩ (.string t2)).setCell ⟨a3, 0, none⟩ (.string t3)).output = w.output := ⟨gb.os, gb.tape, gb.output⟩
  have GS : (((w2.setCell ⟨a1, 0, none⟩ (.string t1)).setCell ⟨a2, 0, none⟩ (.string t2)).setCell ⟨a3, 0, none⟩ (.string t3)).heap.size = w2.heap.size := by simp [World.setCell]
  clear gw gb gx g5 o1 o2 o3 ALL c1 c2 c3 f1 f2 f3 c2'
  generalize (((w2.setCell ⟨a1, 0, none⟩ (.string t1)).setCell ⟨a2, 0, none⟩ (.string t2)).setCell ⟨a3, 0, none⟩ (.string t3)) = W at *
  have hl := hn
  have F1 := Lib.hid (fun (w : World) h => fits_r1 p b cap rs.length x hx k2 k3 k1 m hm hl w h)
  have F2 := Lib.hid (fun (w : World) h => fits_r2 p b cap rs.length x hx k1 k3 k2 m hm hl w h)
  have F3 := Lib.hid (fun (w : World) h => fits_rv p b cap rs.length x hx k1 k2 k3 m hm hl w h)
  rw [hd1] at F1
  rw [hd2] at F2
  rw [hd3] at F3
  have y0 : W.cell? ⟨a5, 0, none⟩ = some z0 := G5.row 0 _ rfl
  have y1 : W.cell? ⟨a5, 1, none⟩ = some z1 := G5.row 1 _ rfl
  have y2 : W.cell? ⟨a5, 2, none⟩ = some z2 := G5.row 2 _ rfl
  have yf : ∀ i, W.frozen? ⟨a5, i, none⟩ = false := G5.free
  have H := Lib.hid (And.intro G1 (And.intro G2 (And.intro G3 (And.intro GW (And.intro G5 (And.intro GH (And.intro GO GS)))))))
  clear G1 G2 G3 GW G5 GH GO GS hm hd1 hd2 hd3 hx h1 h2 h3 hrs
  go_region_held3 (fun w' => w'.cell? ⟨a4, 0, none⟩ = some (.int .i64 x)) (first | exact GX | exact cell_other n45 (cell_other n45 (cell_other n45 GX)))
    (first
      | (go_at_call 53; refine (F1.out _ (by exact H.out.2.2.2.1)).mono ?_; rintro y wq ⟨rfl, e1, rfl⟩)
      | (go_at_call 54; refine (F2.out _ (by exact H.out.2.2.2.1)).mono ?_; rintro y wq ⟨rfl, e2, rfl⟩)
      | (go_at_call 55; refine (F3.out _ (by exact H.out.2.2.2.1)).mono ?_; rintro y wq ⟨rfl, e3, rfl⟩))
  obtain ⟨G1, G2, G3, GW, G5, GH, GO, GS⟩ := H.out
  go_end0
  refine ⟨rfl, (((G1.drewN _).other n15 _).other n15 _).other n15 _, (((G2.drewN _).other n25 _).other n25 _).other n25 _, (((G3.drewN _).other n35 _).other n35 _).other n35 _, FitAt.set3 (x0 := z0) (x1 := z1) (x2 := z2) G5 _ _ _, ?_, ?_, GO⟩
  · have hz : ((((W.drewN (1 + e1 + e2 + e3)).setCell ⟨a5, 0, none⟩ (.bool d1)).setCell ⟨a5, 1, none⟩ (.bool d2)).setCell ⟨a5, 2, none⟩ (.bool d3)).heap.size = W.heap.size := by simp [World.setCell]
    rw [hz]; omega
  · intro k hk q1 q2 q3 q5
    rw [Below.heap_setCell _ _ _ _ (by simpa using q5), Below.heap_setCell _ _ _ _ (by simpa using q5), Below.heap_setCell _ _ _ _ (by simpa using q5)]
    exact GH k hk q1 q2 q3

theorem enter_rg (cap : Array Value) (w : World) : (callFunc 49 cap).run Try.prog w = .ok (.enter 49 cap) w := by kernel_rfl
def rgBlocks (s : ByteArray) (r1 r2 rv x : Int) : List Obj := [.cells #[.string s, .int .i64 r1, .int .i64 r2, .int .i64 rv] 27, .cells #[.int .i64 x] 3, .cells #[.string ⟨#[]⟩] 9, .cells #[.string ⟨#[]⟩] 9, .cells #[.string ⟨#[]⟩] 9, .cells #[.bool false, .bool false, .bool false] 49]

set_option maxHeartbeats 2000000 in
theorem regions (s : ByteArray) (rs : List Int) (hrs : Runes s rs) (k1 k2 k3 : Nat) (h1 : k1 ≤ rs.length) (h2 : k2 ≤ rs.length) (h3 : k3 ≤ rs.length) (hn : rs.length ≤ 2147483647) (x m : Int) (hx : 0 ≤ x ∧ x ≤ 255) (hm : ((rs.length : Nat) : Int) - x = m)
    (t1 t2 t3 : ByteArray) (ht1 : runesBytes (rs.drop k1) = t1) (ht2 : runesBytes (rs.drop k2) = t2) (ht3 : runesBytes (rs.drop k3) = t3) (d1 d2 d3 : Bool) (hd1 : decide ((k1 : Int) ≤ m) = d1) (hd2 : decide ((k2 : Int) ≤ m) = d2) (hd3 : decide ((k3 : Int) ≤ m) = d3) (w : World) :
    Calls Try.prog 25 #[snowV s k1 k2 k3, .int .i64 x] w fun e w' => e = .returned (.tuple #[.string t1, .string t2, .string t3, .agg #[.bool d1, .bool d2, .bool d3]]) ∧ Below w.heap.size w w' := by
  have hmf : ∀ (fn : Fn) (first cap : Array Value) (w : World), (Instr.makeFunc fn first cap).run Try.prog w = .ok (.func fn first cap) w := fun _ _ _ _ => rfl
  have F := Lib.hid (fun (w : World) => rg_closure s rs hrs k1 k2 k3 h1 h2 h3 hn x m hx hm t1 t2 t3 ht1 ht2 ht3 d1 d2 d3 hd1 hd2 hd3 w.heap.size)
  have F2 := Lib.hid (rg_closure s rs hrs k1 k2 k3 h1 h2 h3 hn x m hx hm t1 t2 t3 ht1 ht2 ht3 d1 d2 d3 hd1 hd2 hd3)
  clear F hx hm ht1 ht2 ht3 hd1 hd2 hd3 h1 h2 h3
  unfold snowV
  go_enter Try.func25, Try.ntmps25
  go_wp2_with fail
  change Calls _ _ _ (allocs w (rgBlocks s k1 k2 k3 x)) _
  have r0 : RowAt (allocs w (rgBlocks s k1 k2 k3 x)) w.heap.size #[.string s, .int .i64 k1, .int .i64 k2, .int .i64 k3] := allocs_row (i := 0) rfl rfl
  have o1 : One (allocs w (rgBlocks s k1 k2 k3 x)) (w.heap.size + 1) (.int .i64 x) := allocs_one (i := 1) rfl rfl
  have o2 : One (allocs w (rgBlocks s k1 k2 k3 x)) (w.heap.size + 2) (.string ⟨#[]⟩) := allocs_one (i := 2) rfl rfl
  have o3 : One (allocs w (rgBlocks s k1 k2 k3 x)) (w.heap.size + 3) (.string ⟨#[]⟩) := allocs_one (i := 3) rfl rfl
  have o4 : One (allocs w (rgBlocks s k1 k2 k3 x)) (w.heap.size + 4) (.string ⟨#[]⟩) := allocs_one (i := 4) rfl rfl
  have o5 : FitAt (allocs w (rgBlocks s k1 k2 k3 x)) (w.heap.size + 5) #[.bool false, .bool false, .bool false] := allocs_at (rgBlocks s k1 k2 k3 x) w 5 (by show 5 < 6; omega)
  have hb8 : Below w.heap.size w (allocs w (rgBlocks s k1 k2 k3 x)) := allocs_below _ w _ (Nat.le_refl _)
  have hz : (allocs w (rgBlocks s k1 k2 k3 x)).heap.size = w.heap.size + 6 := allocs_size _ _
  generalize allocs w (rgBlocks s k1 k2 k3 x) = W at *
  refine (safe_any 49 _ W (fun wx => One wx (w.heap.size + 2) (.string t1) ∧ One wx (w.heap.size + 3) (.string t2) ∧ One wx (w.heap.size + 4) (.string t3) ∧ FitAt wx (w.heap.size + 5) #[.bool d1, .bool d2, .bool d3] ∧ Below w.heap.size w wx ∧ W.heap.size < wx.heap.size) (fun w => enter_rg _ w) ?_).mono ?_
  · have hb5 : Below W.heap.size W (W.alloc (.cells #[.bool false] 4)) := (Below.refl _ _).alloc (Nat.le_refl _) _
    have hz' : (W.alloc (.cells #[.bool false] 4)).heap.size = w.heap.size + 7 := by simp; omega
    have hok : (W.alloc (.cells #[.bool false] 4)).heap[W.heap.size]? = some (.cells #[.bool false] 4) := heap_alloc_new _ _
    have hb9 := hb8.alloc (by omega) (.cells #[.bool false] 4)
    refine (F2.out w.heap.size (w.heap.size + 2) (w.heap.size + 3) (w.heap.size + 4) (w.heap.size + 1) (w.heap.size + 5) _ (r0.below hb5) (o1.below hb5).cell _ _ _ _ _ _ (o2.below hb5) (o3.below hb5) (o4.below hb5) (o5.below hb5) (by omega) (by omega) (by omega) (by omega) (by omega) (by omega) (by omega) (by omega) (by omega) (by omega)).mono ?_
    rintro e wx ⟨rfl, p1, p2, p3, p5, hs, hh, ho⟩
    refine ⟨rfl, ⟨p1, p2, p3, p5, ⟨ho.1.trans hb9.os, ho.2.1.trans hb9.tape, ho.2.2.trans hb9.output, by omega, fun k hk => by rw [hh k (by omega) (by omega) (by omega) (by omega) (by omega)]; exact hb9.block k hk⟩, by omega⟩, ?_⟩
    rw [hh W.heap.size (by omega) (by omega) (by omega) (by omega) (by omega)]; exact hok
  · rintro e w' ⟨rfl, wx, ⟨p1, p2, p3, p5, hbx, hlt⟩, hh, rfl⟩
    have s1 := (p1.other (c := W.heap.size) (j := 0) (by omega) (.bool true)).other (c := W.heap.size) (j := 0) (by omega) (.bool true)
    have s2 := (p2.other (c := W.heap.size) (j := 0) (by omega) (.bool true)).other (c := W.heap.size) (j := 0) (by omega) (.bool true)
    have s3 := (p3.other (c := W.heap.size) (j := 0) (by omega) (.bool true)).other (c := W.heap.size) (j := 0) (by omega) (.bool true)
    have s5 := (p5.other (c := W.heap.size) (j := 0) (by omega) (.bool true)).other (c := W.heap.size) (j := 0) (by omega) (.bool true)
    have hb7 := (hbx.setCell (p := ⟨W.heap.size, 0, none⟩) (by simp; omega) (.bool true)).setCell (p := ⟨W.heap.size, 0, none⟩) (by simp; omega) (.bool true)
    generalize (wx.setCell ⟨W.heap.size, 0, none⟩ (.bool true)).setCell ⟨W.heap.size, 0, none⟩ (.bool true) = W5 at *
    obtain ⟨A2, hA2⟩ : ∃ a, w.heap.size + 1 + 1 = a := ⟨_, rfl⟩
    obtain ⟨A3, hA3⟩ : ∃ a, w.heap.size + 1 + 1 + 1 = a := ⟨_, rfl⟩
    obtain ⟨A4, hA4⟩ : ∃ a, w.heap.size + 1 + 1 + 1 + 1 = a := ⟨_, rfl⟩
    obtain ⟨A5, hA5⟩ : ∃ a, w.heap.size + 1 + 1 + 1 + 1 + 1 = a := ⟨_, rfl⟩
    have s1' : One W5 A2 (.string t1) := hA2 ▸ s1
    have s2' : One W5 A3 (.string t2) := hA3 ▸ s2
    have s3' : One W5 A4 (.string t3) := hA4 ▸ s3
    have s5' : FitAt W5 A5 #[.bool d1, .bool d2, .bool d3] := hA5 ▸ s5
    rw [hA5, hA4, hA3, hA2]
    have c2 := s1'.cell
    have c3 := s2'.cell
    have c4 := s3'.cell
    have c50 : W5.cell? ⟨A5, 0, none⟩ = some (.bool d1) := s5'.row 0 _ rfl
    have c51 : W5.cell? ⟨A5, 1, none⟩ = some (.bool d2) := s5'.row 1 _ rfl
    have c52 : W5.cell? ⟨A5, 2, none⟩ = some (.bool d3) := s5'.row 2 _ rfl
    have f2 := s1'.free
    have f3 := s2'.free
    have f4 := s3'.free
    have fz : ∀ i, W5.frozen? ⟨A5, i, none⟩ = false := s5'.free
    have HB := Lib.hid hb7
    clear s1 s2 s3 s5 s1' s2' s3' s5' p1 p2 p3 p5 hbx hlt hh hb7 hb8 hz r0 o1 o2 o3 o4 o5 hmf F2 hrs hn
    go_wp2_with fail
    have e2 : W5.drew.setCell ⟨A2, 0, none⟩ (.string t1) = W5.drew := setCell_id c2
    have e3 : W5.drew.setCell ⟨A3, 0, none⟩ (.string t2) = W5.drew := setCell_id c3
    have e4 : W5.drew.setCell ⟨A4, 0, none⟩ (.string t3) = W5.drew := setCell_id c4
    have e50 : W5.drew.setCell ⟨A5, 0, none⟩ (.bool d1) = W5.drew := setCell_id c50
    have e51 : W5.drew.setCell ⟨A5, 1, none⟩ (.bool d2) = W5.drew := setCell_id c51
    have e52 : W5.drew.setCell ⟨A5, 2, none⟩ (.bool d3) = W5.drew := setCell_id c52
    go_region_held3 (fun w' => w'.cell? ⟨A2, 0, none⟩ = some (.string t1) ∧ w'.cell? ⟨A3, 0, none⟩ = some (.string t2) ∧ w'.cell? ⟨A4, 0, none⟩ = some (.string t3) ∧ w'.cell? ⟨A5, 0, none⟩ = some (.bool d1) ∧ w'.cell? ⟨A5, 1, none⟩ = some (.bool d2) ∧ w'.cell? ⟨A5, 2, none⟩ = some (.bool d3)) (first | (simp only [e2, e3, e4, e50, e51, e52]; exact ⟨c2, c3, c4, c50, c51, c52⟩) | exact ⟨c2, c3, c4, c50, c51, c52⟩) (first | fail)
    all_goals
      have g2 : W5.drew.cell? ⟨A2, 0, none⟩ = some (.string t1) := c2
      have g3 : W5.drew.cell? ⟨A3, 0, none⟩ = some (.string t2) := c3
      have g4 : W5.drew.cell? ⟨A4, 0, none⟩ = some (.string t3) := c4
      have g50 : W5.drew.cell? ⟨A5, 0, none⟩ = some (.bool d1) := c50
      have g51 : W5.drew.cell? ⟨A5, 1, none⟩ = some (.bool d2) := c51
      have g52 : W5.drew.cell? ⟨A5, 2, none⟩ = some (.bool d3) := c52
      have HB6 : Below w.heap.size w W5.drew := below_drewN HB.out 1
      have HB7 := Lib.hid HB6
      clear HB6 HB e2 e3 e4 e50 e51 e52 c2 c3 c4 c50 c51 c52 fz f2 f3 f4 hA2 hA3 hA4 hA5
      generalize W5.drew = W6 at *
      go_wp2
      exact bodyPost_ret (v := .tuple #[.string t1, .string t2, .string t3, .agg #[.bool d1, .bool d2, .bool d3]]) (by simp [results, Try.results25, go_sem, g2, g3, g4, g50, g51, g52]) rfl ⟨rfl, HB7.out⟩
end Go.Proofs.Ytaohmmpfiehniaa
