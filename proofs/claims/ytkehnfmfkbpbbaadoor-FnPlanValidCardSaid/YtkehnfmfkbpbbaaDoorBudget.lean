/- The contracts of mergeplan.CalcBudget and impl.CalcBudget at the numbers that planAwake asks; planAwake. -/
import Derived.Test.YtkehnfmfkbpbbaaDoorOpt
import Derived.LoopN
import Derived.Deep.RegionHeld3
import Derived.Deep.RegionWith
set_option linter.unusedVariables false
set_option linter.unusedSimpArgs false
namespace Go.Proofs.YtkehnfmfkbpbbaaDoor
open Go.RowKit

theorem budget_calc (p : Nat) (w : World) (hr : RowAt w p (optC 1 0 0 0 4611686018427387904 0 7 0)) :
    Calls Tryd.prog 12 #[.int .i64 3, .int .i64 1, .pointer (some ⟨p, 0, none⟩)] w fun x w' => x = .returned (.int .i64 2) ∧ w = w' := by
  have c0 : w.cell? ⟨p, 0, none⟩ = some (.int .i64 1) := hr 0 _ rfl
  have c3 : w.cell? ⟨p, 3, none⟩ = some (.float .f64 4611686018427387904) := hr 3 _ rfl
  have q3 : ∀ w, (convert 2 37 (.int .i64 3)).run Tryd.prog w = .ok (.float .f64 4613937818241073152) w := fun w => by kernel_rfl
  have q2 : ∀ w, (convert 2 37 (.int .i64 2)).run Tryd.prog w = .ok (.float .f64 4611686018427387904) w := fun w => by kernel_rfl
  have q1 : ∀ w, (convert 2 37 (.int .i64 1)).run Tryd.prog w = .ok (.float .f64 4607182418800017408) w := fun w => by kernel_rfl
  have qi : ∀ w, (convert 3 37 (.int .i64 1)).run Tryd.prog w = .ok (.float .f64 4607182418800017408) w := fun w => by kernel_rfl
  have d1 : ∀ w, (binOp .quo 37 (.float .f64 4613937818241073152) (.float .f64 4607182418800017408)).run Tryd.prog w = .ok (.float .f64 4613937818241073152) w := fun w => by kernel_rfl
  have d2 : ∀ w, (binOp .quo 37 (.float .f64 4611686018427387904) (.float .f64 4611686018427387904)).run Tryd.prog w = .ok (.float .f64 4607182418800017408) w := fun w => by kernel_rfl
  have l0 : ∀ w, (binOp .lss 37 (.float .f64 4611686018427387904) (.float .f64 4607182418800017408)).run Tryd.prog w = .ok (.bool false) w := fun w => by kernel_rfl
  have l1 : ∀ w, (binOp .lss 37 (.float .f64 4613937818241073152) (.float .f64 4607182418800017408)).run Tryd.prog w = .ok (.bool false) w := fun w => by kernel_rfl
  have l2 : ∀ w, (binOp .lss 37 (.float .f64 4607182418800017408) (.float .f64 4607182418800017408)).run Tryd.prog w = .ok (.bool false) w := fun w => by kernel_rfl
  have m1 : ∀ w, (binOp .mul 37 (.float .f64 4607182418800017408) (.float .f64 4611686018427387904)).run Tryd.prog w = .ok (.float .f64 4611686018427387904) w := fun w => by kernel_rfl
  have m2 : ∀ w, (binOp .mul 37 (.float .f64 4611686018427387904) (.float .f64 4611686018427387904)).run Tryd.prog w = .ok (.float .f64 4616189618054758400) w := fun w => by kernel_rfl
  have b1 : ∀ w, (convert 37 2 (.float .f64 4611686018427387904)).run Tryd.prog w = .ok (.int .i64 2) w := fun w => by kernel_rfl
  have b2 : ∀ w, (convert 37 2 (.float .f64 4616189618054758400)).run Tryd.prog w = .ok (.int .i64 4) w := fun w => by kernel_rfl
  go_enter Tryd.func12, Tryd.ntmps12
  go_wp2
  refine wp_loop_rounds 3 ?_
  simp only [rounds_succ]
  go_wp2
  simp only [rounds_succ]
  go_wp2
  simp only [rounds_succ]
  go_wp2
  go_ret
  exact ⟨rfl, rfl⟩

theorem cell_other {w : World} {a c i j : Nat} {v y : Value} (h : a ≠ c) (hc : w.cell? ⟨a, i, none⟩ = some v) : (w.setCell ⟨c, j, none⟩ y).cell? ⟨a, i, none⟩ = some v := by
  rw [World.cell?_setCell_other _ _ _ _ (by intro e; exact h (by injection e with e1; exact e1.symm))]; exact hc

theorem cb_closure (a0 a1 a2 a3 : Nat) (w : World) (c0 : w.cell? ⟨a0, 0, none⟩ = some (.int .i64 3)) (c1 : w.cell? ⟨a1, 0, none⟩ = some (.int .i64 1))
    (r2 : RowAt w a2 #[.int .i64 1, .int .i64 0, .int .i64 0, .int .i64 0, .int .u64 4611686018427387904, .int .u64 0, .int .i64 7, .int .i64 0]) (x3 : Value) (o3 : One w a3 x3) (n0 : a0 ≠ a3) (n1 : a1 ≠ a3) (n2 : a2 ≠ a3) :
    Calls Tryd.prog 11 #[.pointer (some ⟨a0, 0, none⟩), .pointer (some ⟨a1, 0, none⟩), .pointer (some ⟨a2, 0, none⟩), .pointer (some ⟨a3, 0, none⟩)] w fun e w' =>
      e = .returned (.tuple #[]) ∧ ∃ w2, Below w.heap.size w w2 ∧ w' = w2.setCell ⟨a3, 0, none⟩ (.int .i64 2) := by
  have e0 : w.cell? ⟨a2, 0, none⟩ = some (.int .i64 1) := r2 0 _ rfl
  have e1 : w.cell? ⟨a2, 1, none⟩ = some (.int .i64 0) := r2 1 _ rfl
  have e2 : w.cell? ⟨a2, 2, none⟩ = some (.int .i64 0) := r2 2 _ rfl
  have e3 : w.cell? ⟨a2, 3, none⟩ = some (.int .i64 0) := r2 3 _ rfl
  have e4 : w.cell? ⟨a2, 4, none⟩ = some (.int .u64 4611686018427387904) := r2 4 _ rfl
  have e5 : w.cell? ⟨a2, 5, none⟩ = some (.int .u64 0) := r2 5 _ rfl
  have e6 : w.cell? ⟨a2, 6, none⟩ = some (.int .i64 7) := r2 6 _ rfl
  have e7 : w.cell? ⟨a2, 7, none⟩ = some (.int .i64 0) := r2 7 _ rfl
  have b0 := World.block_lt_of_cell? w _ c0
  have b1 := World.block_lt_of_cell? w _ c1
  have b2 := World.block_lt_of_cell? w _ e0
  have b3 := o3.lt
  have O3 := Lib.hid o3
  have k3 := o3.cell
  have f3 := o3.free
  clear o3 r2
  go_enter Tryd.func11, Tryd.ntmps11
  go_wp2_with fail
  go_region_held3 (fun w' => w'.cell? ⟨a0, 0, none⟩ = some (.int .i64 3) ∧ w'.cell? ⟨a1, 0, none⟩ = some (.int .i64 1) ∧ w'.cell? ⟨a2, 0, none⟩ = some (.int .i64 1) ∧ w'.cell? ⟨a2, 1, none⟩ = some (.int .i64 0) ∧ w'.cell? ⟨a2, 2, none⟩ = some (.int .i64 0) ∧ w'.cell? ⟨a2, 3, none⟩ = some (.int .i64 0) ∧ w'.cell? ⟨a2, 4, none⟩ = some (.int .u64 4611686018427387904) ∧ w'.cell? ⟨a2, 5, none⟩ = some (.int .u64 0) ∧ w'.cell? ⟨a2, 6, none⟩ = some (.int .i64 7) ∧ w'.cell? ⟨a2, 7, none⟩ = some (.int .i64 0))
    (first | exact ⟨c0, c1, e0, e1, e2, e3, e4, e5, e6, e7⟩ | exact ⟨cell_below hb1 b0 c0, cell_below hb1 b1 c1, cell_below hb1 b2 e0, cell_below hb1 b2 e1, cell_below hb1 b2 e2, cell_below hb1 b2 e3, cell_below hb1 b2 e4, cell_below hb1 b2 e5, cell_below hb1 b2 e6, cell_below hb1 b2 e7⟩ | exact ⟨cell_other n0 (cell_below hb1 b0 c0), cell_other n1 (cell_below hb1 b1 c1), cell_other n2 (cell_below hb1 b2 e0), cell_other n2 (cell_below hb1 b2 e1), cell_other n2 (cell_below hb1 b2 e2), cell_other n2 (cell_below hb1 b2 e3), cell_other n2 (cell_below hb1 b2 e4), cell_other n2 (cell_below hb1 b2 e5), cell_other n2 (cell_below hb1 b2 e6), cell_other n2 (cell_below hb1 b2 e7)⟩)
    (first
      | (go_at_call 9; refine (options 1 0 0 0 4611686018427387904 0 7 0 _).mono ?_; rintro e w1 ⟨p, rfl, hp, hr, hb1⟩; have k4 := cell_below hb1 b3 k3; have f4 := frozen_below hb1 b3 f3)
      | (go_at_call 12; refine (budget_calc _ _ hr).mono ?_; rintro e w2 ⟨rfl, rfl⟩))
  go_end0
  exact ⟨rfl, _, (below_drewN (Below.refl _ w) 1).trans hb1, rfl⟩

theorem enter_cb (cap : Array Value) (w : World) : (callFunc 11 cap).run Tryd.prog w = .ok (.enter 11 cap) w := by kernel_rfl

theorem impl_budget (w : World) :
    Calls Tryd.prog 6 #[.int .i64 3, .int .i64 1, optsV 1 0 0 0 4611686018427387904 0 7 0] w fun e w' => e = .returned (.int .i64 2) ∧ Below w.heap.size w w' := by
  have hmf : ∀ (fn : Fn) (first cap : Array Value) (w : World), (Instr.makeFunc fn first cap).run Tryd.prog w = .ok (.func fn first cap) w := fun _ _ _ _ => rfl
  go_enter Tryd.func6, Tryd.ntmps6
  unfold optsV
  go_wp2_with fail
  generalize hv : #[Value.int .i64 1, .int .i64 0, .int .i64 0, .int .i64 0, .int .u64 4611686018427387904, .int .u64 0, .int .i64 7, .int .i64 0] = row at *
  have hb1 : Below w.heap.size w (w.alloc (.cells #[.int .i64 3] 2)) := (Below.refl _ _).alloc (Nat.le_refl _) _
  have k0 := cell_new w (.int .i64 3) 2
  have z1 : (w.alloc (.cells #[.int .i64 3] 2)).heap.size = w.heap.size + 1 := by simp
  generalize w.alloc (.cells #[.int .i64 3] 2) = w1 at *
  have hb2 := hb1.alloc (by omega) (.cells #[.int .i64 1] 2)
  have k1 := cell_new w1 (.int .i64 1) 2
  have k0 := cell_alloc k0 (.cells #[.int .i64 1] 2)
  have z2 : (w1.alloc (.cells #[.int .i64 1] 2)).heap.size = w.heap.size + 2 := by simp; omega
  generalize w1.alloc (.cells #[.int .i64 1] 2) = w2 at *
  have hb3 := hb2.alloc (by omega) (.cells row 24)
  have r2 := RowAt.new w2 row 24
  have k1 := cell_alloc k1 (.cells row 24)
  have k0 := cell_alloc k0 (.cells row 24)
  have z3 : (w2.alloc (.cells row 24)).heap.size = w.heap.size + 3 := by simp; omega
  generalize w2.alloc (.cells row 24) = w3 at *
  have hb4 := hb3.alloc (by omega) (.cells #[.int .i64 0] 3)
  have o3 := One.new w3 (.int .i64 0) 3
  have k1 := cell_alloc k1 (.cells #[.int .i64 0] 3)
  have k0 := cell_alloc k0 (.cells #[.int .i64 0] 3)
  have r2 := r2.below ((Below.refl _ _).alloc (Nat.le_refl _) (.cells #[.int .i64 0] 3))
  have z4 : (w3.alloc (.cells #[.int .i64 0] 3)).heap.size = w.heap.size + 4 := by simp; omega
  generalize w3.alloc (.cells #[.int .i64 0] 3) = w4 at *
  rw [z1] at k1
  rw [z2] at r2
  rw [z3] at o3
  refine (safe_any 11 _ w4 (fun wx => One wx (w.heap.size + 1 + 1 + 1) (.int .i64 2) ∧ Below w.heap.size w wx ∧ w4.heap.size < wx.heap.size) (fun w => enter_cb _ w) ?_).mono ?_
  · have hb5 : Below w4.heap.size w4 (w4.alloc (.cells #[.bool false] 4)) := (Below.refl _ _).alloc (Nat.le_refl _) _
    have q3 := o3.below hb5
    subst hv
    refine (cb_closure w.heap.size (w.heap.size + 1) (w.heap.size + 1 + 1) (w.heap.size + 1 + 1 + 1) _ (cell_alloc k0 _) (cell_alloc k1 _) (r2.below hb5) _ q3 (by omega) (by omega) (by omega)).mono ?_
    rintro e wx ⟨rfl, wy, hby, rfl⟩
    have hz : (w4.alloc (.cells #[.bool false] 4)).heap.size = w.heap.size + 5 := by simp; omega
    have hsy := hby.size
    refine ⟨rfl, ⟨(q3.below hby).set _, ((hb4.alloc (by omega) (.cells #[.bool false] 4)).trans (hby.mono (by omega))).setCell (p := ⟨w.heap.size + 1 + 1 + 1, 0, none⟩) (by simp; omega) _, ?_⟩, ?_⟩
    · simp [World.setCell]; omega
    · rw [Below.heap_setCell _ _ _ _ (by simp; omega), hby.block _ (by omega)]; exact heap_alloc_new _ _
  · rintro e w' ⟨rfl, wx, ⟨q1, hbx, hlt⟩, hh, rfl⟩
    have r1 := (q1.other (c := w4.heap.size) (j := 0) (by omega) (.bool true)).other (c := w4.heap.size) (j := 0) (by omega) (.bool true)
    have hb7 := (hbx.setCell (p := ⟨w4.heap.size, 0, none⟩) (by simp; omega) (.bool true)).setCell (p := ⟨w4.heap.size, 0, none⟩) (by simp; omega) (.bool true)
    generalize (wx.setCell ⟨w4.heap.size, 0, none⟩ (.bool true)).setCell ⟨w4.heap.size, 0, none⟩ (.bool true) = W5 at *
    have e1 := r1.cell
    have g1 := r1.free
    have t1 := (r1.set (.int .i64 2)).cell
    have HB := Lib.hid hb7
    clear r1 q1 hbx hh hlt hb7 hb4 hb3 hb2 hb1 o3 r2 k0 k1 z1 z2 z3 z4 hmf
    go_wp2
    exact bodyPost_ret (v := .int .i64 2) (by simp [results, Tryd.results6, go_sem, t1]) rfl ⟨rfl, HB.out.setCell (by simp; omega) _⟩

theorem awake (w : World) : Calls Tryd.prog 4 #[] w fun e w' => e = .returned (.bool true) ∧ Below w.heap.size w w' := by
  have hb1 : Below w.heap.size w (w.alloc (.cells #[.int .i64 1, .int .i64 0, .int .i64 0, .int .i64 0, .int .u64 4611686018427387904, .int .u64 0, .int .i64 7, .int .i64 0] 24)) := (Below.refl _ _).alloc (Nat.le_refl _) _
  have r2 := RowAt.new w #[.int .i64 1, .int .i64 0, .int .i64 0, .int .i64 0, .int .u64 4611686018427387904, .int .u64 0, .int .i64 7, .int .i64 0] 24
  have HB1 := Lib.hid hb1
  have HR := Lib.hid r2
  clear hb1 r2
  go_enter Tryd.func4, Tryd.ntmps4
  go_wp2_with fail
  refine (impl_budget _).mono ?_
  rintro e w1 ⟨rfl, hb⟩
  have r3 := HR.out.below hb
  have HB2 := Lib.hid (HB1.out.trans (hb.mono HB1.out.size))
  have e0 : w1.cell? ⟨w.heap.size, 0, none⟩ = some (.int .i64 1) := r3 0 _ rfl
  have e1 : w1.cell? ⟨w.heap.size, 1, none⟩ = some (.int .i64 0) := r3 1 _ rfl
  have e2 : w1.cell? ⟨w.heap.size, 2, none⟩ = some (.int .i64 0) := r3 2 _ rfl
  have e3 : w1.cell? ⟨w.heap.size, 3, none⟩ = some (.int .i64 0) := r3 3 _ rfl
  have e4 : w1.cell? ⟨w.heap.size, 4, none⟩ = some (.int .u64 4611686018427387904) := r3 4 _ rfl
  have e5 : w1.cell? ⟨w.heap.size, 5, none⟩ = some (.int .u64 0) := r3 5 _ rfl
  have e6 : w1.cell? ⟨w.heap.size, 6, none⟩ = some (.int .i64 7) := r3 6 _ rfl
  have e7 : w1.cell? ⟨w.heap.size, 7, none⟩ = some (.int .i64 0) := r3 7 _ rfl
  clear r3 hb
  go_wp2_with fail
  refine (raise_size 2 1 0 0 0 4611686018427387904 0 7 0 w1).mono ?_
  rintro e w2 ⟨rfl, hb⟩
  have HB3 := Lib.hid (HB2.out.trans (hb.mono HB2.out.size))
  clear hb e0 e1 e2 e3 e4 e5 e6 e7
  have hm : max (2 : Int) 7 = 7 := rfl
  rw [hm]
  go_wp2
  go_ret
  exact ⟨rfl, HB3.out⟩
end Go.Proofs.YtkehnfmfkbpbbaaDoor
