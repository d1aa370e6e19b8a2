/- The contracts of impl.FragmentText at the numbers that highlightAwake asks, and of highlightAwake. -/
import Derived.Test.YtbfelpgojgaeoaaDoorFormat
import Derived.Lib.ConvBytes
import Derived.Deep.RegionHeld3
import Derived.Deep.RegionWith
import Derived.StillTailTactics
set_option linter.unusedVariables false
set_option linter.unusedSimpArgs false
namespace Go.Proofs.YtbfelpgojgaeoaaDoor
open Go.RowKit

structure FBase (w : World) (a4 a5 a6 a7 lb p2 ob cap : Nat) (x7 : Value) : Prop where
  c4 : w.cell? ⟨a4, 0, none⟩ = some (.string ⟨#[60]⟩)
  c5 : w.cell? ⟨a5, 0, none⟩ = some (.string ⟨#[62]⟩)
  c6 : w.cell? ⟨a6, 0, none⟩ = some (.slice (some ⟨lb, 0, none⟩) 1 1)
  l0 : w.cell? ⟨lb, 0, none⟩ = some (.int .i64 1)
  l1 : w.cell? ⟨lb, 1, none⟩ = some (.int .i64 2)
  fr : RowAt w p2 (fragRow ob cap)
  b0 : w.cell? ⟨ob, 0, none⟩ = some (.int .u8 97)
  b1 : w.cell? ⟨ob, 1, none⟩ = some (.int .u8 98)
  b2 : w.cell? ⟨ob, 2, none⟩ = some (.int .u8 99)
  o7 : One w a7 x7
section
variable {w w1 : World} {a4 a5 a6 a7 lb p2 ob cap : Nat} {x7 : Value}
theorem FBase.below (h : FBase w a4 a5 a6 a7 lb p2 ob cap x7) (hb : Below w.heap.size w w1) : FBase w1 a4 a5 a6 a7 lb p2 ob cap x7 :=
  ⟨belowRow hb h.c4, belowRow hb h.c5, belowRow hb h.c6, belowRow hb h.l0, belowRow hb h.l1, h.fr.below hb, belowRow hb h.b0, belowRow hb h.b1, belowRow hb h.b2, h.o7.below hb⟩
theorem baseBelow (hb : Below w.heap.size w w1) (h : FBase w a4 a5 a6 a7 lb p2 ob cap x7) : FBase w1 a4 a5 a6 a7 lb p2 ob cap x7 := h.below hb
theorem FBase.drewN (h : FBase w a4 a5 a6 a7 lb p2 ob cap x7) (n : Nat) : FBase (w.drewN n) a4 a5 a6 a7 lb p2 ob cap x7 :=
  ⟨h.c4, h.c5, h.c6, h.l0, h.l1, h.fr, h.b0, h.b1, h.b2, h.o7.drewN n⟩
theorem FBase.drew (h : FBase w a4 a5 a6 a7 lb p2 ob cap x7) : FBase w.drew a4 a5 a6 a7 lb p2 ob cap x7 :=
  ⟨h.c4, h.c5, h.c6, h.l0, h.l1, h.fr, h.b0, h.b1, h.b2, h.o7.drew⟩
theorem FBase.s (h : FBase w a4 a5 a6 a7 lb p2 ob cap x7) : w.cell? ⟨a4, 0, none⟩ = some (.string ⟨#[60]⟩) ∧ w.cell? ⟨a5, 0, none⟩ = some (.string ⟨#[62]⟩) ∧ w.cell? ⟨a6, 0, none⟩ = some (.slice (some ⟨lb, 0, none⟩) 1 1) := ⟨h.c4, h.c5, h.c6⟩
theorem FBase.t (h : FBase w a4 a5 a6 a7 lb p2 ob cap x7) (n4 : a4 ≠ a7) (n5 : a5 ≠ a7) (n6 : a6 ≠ a7) (y : Value) :
    (w.setCell ⟨a7, 0, none⟩ y).cell? ⟨a4, 0, none⟩ = some (.string ⟨#[60]⟩) ∧ (w.setCell ⟨a7, 0, none⟩ y).cell? ⟨a5, 0, none⟩ = some (.string ⟨#[62]⟩) ∧ (w.setCell ⟨a7, 0, none⟩ y).cell? ⟨a6, 0, none⟩ = some (.slice (some ⟨lb, 0, none⟩) 1 1) :=
  ⟨cell_other n4 h.c4, cell_other n5 h.c5, cell_other n6 h.c6⟩
end

theorem bytesBelow (w : World) (e : TypeId) (s : ByteArray) (B : Nat) (hB : B ≤ w.heap.size) : Below B w (Go.Lib.bytesWorld w e s) :=
  ⟨by simp [Go.Lib.bytesWorld, World.freeze, World.alloc, World.drew, -World.alloc_eq, -World.drew_eq], by simp [Go.Lib.bytesWorld, World.freeze, World.alloc, World.drew, -World.alloc_eq, -World.drew_eq],
    by simp [Go.Lib.bytesWorld, World.freeze, World.alloc, World.drew, -World.alloc_eq, -World.drew_eq], by rw [Go.Lib.bytesWorld_size]; omega, fun k hk => Go.Lib.bytesWorld_at_old w e s k (by omega)⟩

abbrev abc : ByteArray := ⟨#[97, 98, 99]⟩
set_option maxHeartbeats 1000000 in
theorem ft_closure (a0 a1 a2 a3 a4 a5 a6 a7 lb : Nat) (x7 : Value) (w : World) (c0 : w.cell? ⟨a0, 0, none⟩ = some (.string abc)) (c1 : w.cell? ⟨a1, 0, none⟩ = some (.int .i64 0)) (c2 : w.cell? ⟨a2, 0, none⟩ = some (.int .i64 3))
    (c3 : w.cell? ⟨a3, 0, none⟩ = some (.int .i64 1)) (c4 : w.cell? ⟨a4, 0, none⟩ = some (.string ⟨#[60]⟩)) (c5 : w.cell? ⟨a5, 0, none⟩ = some (.string ⟨#[62]⟩)) (c6 : w.cell? ⟨a6, 0, none⟩ = some (.slice (some ⟨lb, 0, none⟩) 1 1))
    (l0 : w.cell? ⟨lb, 0, none⟩ = some (.int .i64 1)) (l1 : w.cell? ⟨lb, 1, none⟩ = some (.int .i64 2)) (o7 : One w a7 x7) (n4 : a4 ≠ a7) (n5 : a5 ≠ a7) (n6 : a6 ≠ a7) :
    Calls Tryd.prog 16 #[.pointer (some ⟨a0, 0, none⟩), .pointer (some ⟨a1, 0, none⟩), .pointer (some ⟨a2, 0, none⟩), .pointer (some ⟨a3, 0, none⟩), .pointer (some ⟨a4, 0, none⟩), .pointer (some ⟨a5, 0, none⟩), .pointer (some ⟨a6, 0, none⟩), .pointer (some ⟨a7, 0, none⟩)] w fun e w' =>
      e = .returned (.tuple #[]) ∧ ∃ w2, Below w.heap.size w w2 ∧ w' = w2.setCell ⟨a7, 0, none⟩ (.string ⟨#[97, 60, 98, 62, 99]⟩) := by
  have hcv := Go.Lib.run_convert_string_bytes (P := Tryd.prog) w 9 42 5 abc Tryd.underlying9 Tryd.underlying42 Tryd.underlying5
  have hbb := bytesBelow w 5 abc w.heap.size (Nat.le_refl _)
  have hsz := Go.Lib.bytesWorld_size w 5 abc
  have hcap : 3 ≤ grownCap w abc.size 0 5 := grownCap_ge w 3 0 5
  have hmax : grownCap w abc.size 0 5 ≤ 9223372036854775807 := grownCap_le_maxLen w 3 0 5 (by decide)
  have e0 : (Go.Lib.bytesWorld w 5 abc).cell? ⟨w.heap.size, 0, none⟩ = some (.int .u8 97) := Go.Lib.bytesWorld_cell w 5 abc 0 (by decide)
  have e1 : (Go.Lib.bytesWorld w 5 abc).cell? ⟨w.heap.size, 1, none⟩ = some (.int .u8 98) := Go.Lib.bytesWorld_cell w 5 abc 1 (by decide)
  have e2 : (Go.Lib.bytesWorld w 5 abc).cell? ⟨w.heap.size, 2, none⟩ = some (.int .u8 99) := Go.Lib.bytesWorld_cell w 5 abc 2 (by decide)
  generalize Go.Lib.bytesWorld w 5 abc = W at *
  generalize grownCap w abc.size 0 5 = cap at *
  have d0 := belowRow hbb c1
  have d1 := belowRow hbb c2
  have d2 := belowRow hbb c3
  have hb3 : Below w.heap.size w (W.alloc (.cells (fragRow w.heap.size cap) 50)) := hbb.alloc (by omega) _
  have hba : Below W.heap.size W (W.alloc (.cells (fragRow w.heap.size cap) 50)) := (Below.refl _ _).alloc (Nat.le_refl _) _
  have B00 : FBase (W.alloc (.cells (fragRow w.heap.size cap) 50)) a4 a5 a6 a7 lb W.heap.size w.heap.size cap x7 :=
    ⟨belowRow hba (belowRow hbb c4), belowRow hba (belowRow hbb c5), belowRow hba (belowRow hbb c6), belowRow hba (belowRow hbb l0), belowRow hba (belowRow hbb l1), RowAt.new _ _ _, belowRow hba e0, belowRow hba e1, belowRow hba e2, (o7.below hbb).below hba⟩
  have d3 := belowRow hba d2
  simp only [fragRow] at d3
  rw [hsz] at B00
  have BB := Lib.hid B00
  have HB3 := Lib.hid hb3
  clear c4 c5 c6 l0 l1 e0 e1 e2 o7 hba B00 hb3 c2 c3
  go_enter Tryd.func16, Tryd.ntmps16
  go_wp2_with fail
  change Code.wp _ _ _ _ (W.alloc (.cells (fragRow w.heap.size cap) 50))
  clear d0 d1 d2 d3 hcv c0 c1
  generalize W.alloc (.cells (fragRow w.heap.size cap) 50) = W1 at *
  have B0 := BB.out.drew
  go_region_held3 (fun w' => w'.cell? ⟨a4, 0, none⟩ = some (.string ⟨#[60]⟩) ∧ w'.cell? ⟨a5, 0, none⟩ = some (.string ⟨#[62]⟩) ∧ w'.cell? ⟨a6, 0, none⟩ = some (.slice (some ⟨lb, 0, none⟩) 1 1))
    (first | exact B3.t n4 n5 n6 _ | exact B3.s | exact B2.s | exact BN1.s | exact BL1.s | exact B0.s)
    (first
      | (go_at_call 19; refine (new_formatter ⟨#[60]⟩ ⟨#[62]⟩ _).mono ?_; rintro x wM ⟨p1, rfl, hN, hbM⟩; have B2 := baseBelow hbM BL1; have hG := belowRow hbM hG1; have hP := rowBelow hbM hP1; have HB := hbL.trans (hbM.mono hbL.size))
      | (go_at_call 19; refine (new_formatter ⟨#[60]⟩ ⟨#[62]⟩ _).mono ?_; rintro x wN ⟨p1, rfl, hN1, hbN⟩; have BN1 := baseBelow hbN B0)
      | (go_at_call 15; refine (locs lb _ BN1.l0 BN1.l1).mono ?_; rintro x wM ⟨g, gcap, pl, rfl, hG, hP, hbM⟩; have B2 := baseBelow hbM BN1; have hN := rowBelow hbM hN1; have HB := hbN.trans (hbM.mono hbN.size))
      | (go_at_call 15; refine (locs lb _ B0.l0 B0.l1).mono ?_; rintro x wL ⟨g, gcap, pl, rfl, hG1, hP1, hbL⟩; have BL1 := baseBelow hbL B0)
      | (go_at_call 20; refine (format p1 _ w.heap.size cap g gcap pl _ hcap hmax hN B2.fr B2.b0 B2.b1 B2.b2 hG hP).mono ?_; rintro x wF ⟨rfl, d, rfl⟩; have B3 := B2.drewN d; have k7 := B3.o7.cell; have f7 := B3.o7.free))
  have HBF := below_drewN ((below_drewN HB3.out 1).trans (HB.mono HB3.out.size)) d
  go_wp2
  go_end0
  exact ⟨rfl, _, HBF, rfl⟩

theorem enter_ft (cap : Array Value) (w : World) : (callFunc 16 cap).run Tryd.prog w = .ok (.enter 16 cap) w := by kernel_rfl

def ftBlocks (lb : Nat) : List Obj := [.cells #[.int .i64 1] 3, .cells #[.string abc] 9, .cells #[.int .i64 0] 3, .cells #[.int .i64 3] 3, .cells #[.slice (some ⟨lb, 0, none⟩) 1 1] 22, .cells #[.string ⟨#[60]⟩] 9, .cells #[.string ⟨#[62]⟩] 9, .cells #[.string ⟨#[]⟩] 9]

set_option maxHeartbeats 1000000 in
theorem frag_text (lb : Nat) (w : World) (l0 : w.cell? ⟨lb, 0, none⟩ = some (.int .i64 1)) (l1 : w.cell? ⟨lb, 1, none⟩ = some (.int .i64 2)) :
    Calls Tryd.prog 10 #[.int .i64 1, .string abc, .int .i64 0, .int .i64 3, .slice (some ⟨lb, 0, none⟩) 1 1, .string ⟨#[60]⟩, .string ⟨#[62]⟩] w fun e w' => e = .returned (.string ⟨#[97, 60, 98, 62, 99]⟩) ∧ Below w.heap.size w w' := by
  have hmf : ∀ (fn : Fn) (first cap : Array Value) (w : World), (Instr.makeFunc fn first cap).run Tryd.prog w = .ok (.func fn first cap) w := fun _ _ _ _ => rfl
  go_enter Tryd.func10, Tryd.ntmps10
  go_wp2_with fail
  change Calls _ _ _ (allocs w (ftBlocks lb)) _
  have o0 : One (allocs w (ftBlocks lb)) (w.heap.size) (.int .i64 1) := allocs_one (i := 0) rfl rfl
  have o1 : One (allocs w (ftBlocks lb)) (w.heap.size + 1) (.string abc) := allocs_one (i := 1) rfl rfl
  have o2 : One (allocs w (ftBlocks lb)) (w.heap.size + 2) (.int .i64 0) := allocs_one (i := 2) rfl rfl
  have o3 : One (allocs w (ftBlocks lb)) (w.heap.size + 3) (.int .i64 3) := allocs_one (i := 3) rfl rfl
  have o4 : One (allocs w (ftBlocks lb)) (w.heap.size + 4) (.slice (some ⟨lb, 0, none⟩) 1 1) := allocs_one (i := 4) rfl rfl
  have o5 : One (allocs w (ftBlocks lb)) (w.heap.size + 5) (.string ⟨#[60]⟩) := allocs_one (i := 5) rfl rfl
  have o6 : One (allocs w (ftBlocks lb)) (w.heap.size + 6) (.string ⟨#[62]⟩) := allocs_one (i := 6) rfl rfl
  have o7 : One (allocs w (ftBlocks lb)) (w.heap.size + 7) (.string ⟨#[]⟩) := allocs_one (i := 7) rfl rfl
  have hb8 : Below w.heap.size w (allocs w (ftBlocks lb)) := allocs_below _ w _ (Nat.le_refl _)
  have hb8' : Below w.heap.size w (allocs w (ftBlocks lb)) := hb8
  have hz : (allocs w (ftBlocks lb)).heap.size = w.heap.size + 8 := allocs_size _ _
  have m0 := belowRow hb8 l0
  have m1 := belowRow hb8 l1
  generalize allocs w (ftBlocks lb) = W at *
  refine (safe_any 16 _ W (fun wx => One wx (w.heap.size + 7) (.string ⟨#[97, 60, 98, 62, 99]⟩) ∧ Below w.heap.size w wx ∧ W.heap.size < wx.heap.size) (fun w => enter_ft _ w) ?_).mono ?_
  · have hb5 : Below W.heap.size W (W.alloc (.cells #[.bool false] 4)) := (Below.refl _ _).alloc (Nat.le_refl _) _
    have q7 := o7.below hb5
    refine (ft_closure (w.heap.size + 1) (w.heap.size + 2) (w.heap.size + 3) w.heap.size (w.heap.size + 5) (w.heap.size + 6) (w.heap.size + 4) (w.heap.size + 7) lb _ _ (o1.below hb5).cell (o2.below hb5).cell (o3.below hb5).cell (o0.below hb5).cell (o5.below hb5).cell (o6.below hb5).cell (o4.below hb5).cell (belowRow hb5 m0) (belowRow hb5 m1) q7 (by omega) (by omega) (by omega)).mono ?_
    rintro e wx ⟨rfl, wy, hby, rfl⟩
    have hz' : (W.alloc (.cells #[.bool false] 4)).heap.size = w.heap.size + 9 := by simp; omega
    have hsy := hby.size
    refine ⟨rfl, ⟨(q7.below hby).set _, ((hb8.alloc (by omega) (.cells #[.bool false] 4)).trans (hby.mono (by omega))).setCell (p := ⟨w.heap.size + 7, 0, none⟩) (by simp) _, ?_⟩, ?_⟩
    · simp [World.setCell]; omega
    · rw [Below.heap_setCell _ _ _ _ (by simp; omega), hby.block _ (by omega)]; exact heap_alloc_new _ _
  · rintro e w' ⟨rfl, wx, ⟨q1, hbx, hlt⟩, hh, rfl⟩
    have r1 := (q1.other (c := W.heap.size) (j := 0) (by omega) (.bool true)).other (c := W.heap.size) (j := 0) (by omega) (.bool true)
    have hb7 := (hbx.setCell (p := ⟨W.heap.size, 0, none⟩) (by simp; omega) (.bool true)).setCell (p := ⟨W.heap.size, 0, none⟩) (by simp; omega) (.bool true)
    generalize (wx.setCell ⟨W.heap.size, 0, none⟩ (.bool true)).setCell ⟨W.heap.size, 0, none⟩ (.bool true) = W5 at *
    have e1 : W5.cell? ⟨w.heap.size + 1 + 1 + 1 + 1 + 1 + 1 + 1, 0, none⟩ = _ := r1.cell
    have g1 : W5.frozen? ⟨w.heap.size + 1 + 1 + 1 + 1 + 1 + 1 + 1, 0, none⟩ = false := r1.free
    have t1 : (W5.setCell ⟨w.heap.size + 1 + 1 + 1 + 1 + 1 + 1 + 1, 0, none⟩ (.string ⟨#[97, 60, 98, 62, 99]⟩)).cell? ⟨w.heap.size + 1 + 1 + 1 + 1 + 1 + 1 + 1, 0, none⟩ = _ := (r1.set (.string ⟨#[97, 60, 98, 62, 99]⟩)).cell
    have HB := Lib.hid hb7
    clear r1 q1 hbx hh hlt hb7 hb8 hb8' o0 o1 o2 o3 o4 o5 o6 o7 m0 m1 hz hmf l0 l1
    go_wp2
    exact bodyPost_ret (v := .string ⟨#[97, 60, 98, 62, 99]⟩) (by simp [results, Tryd.results10, go_sem, t1]) rfl ⟨rfl, HB.out.setCell (by simp; omega) _⟩

theorem awake (w : World) : Calls Tryd.prog 6 #[] w fun e w' => e = .returned (.bool true) ∧ Below w.heap.size w w' := by
  go_enter Tryd.func6, Tryd.ntmps6
  go_wp2_with fail
  have hb1 : Below w.heap.size w (w.alloc (.cells #[.int .i64 1, .int .i64 2] 26)) := (Below.refl _ _).alloc (Nat.le_refl _) _
  have hr := RowAt.new w #[.int .i64 1, .int .i64 2] 26
  have HB1 := Lib.hid hb1
  refine (frag_text w.heap.size _ (hr 0 _ rfl) (hr 1 _ rfl)).mono ?_
  rintro e w1 ⟨rfl, hb⟩
  have HB2 := Lib.hid (HB1.out.trans (hb.mono HB1.out.size))
  clear hb hb1 hr
  go_wp2
  go_ret
  exact ⟨rfl, HB2.out⟩
end Go.Proofs.YtbfelpgojgaeoaaDoor
