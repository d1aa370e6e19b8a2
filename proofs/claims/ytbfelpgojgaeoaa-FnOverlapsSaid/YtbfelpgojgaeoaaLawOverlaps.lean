/- The walk of laws.FnOverlaps: true whatever the numbers. -/
import Derived.Test.YtbfelpgojgaeoaaOverlaps
import Derived.Deep.DeepCutAuto
import Derived.Deep.Cut
import Derived.Deep.CutBlock
set_option linter.unusedVariables false
set_option linter.unusedSimpArgs false
namespace Go.Proofs.Ytbfelpgojgaeoaa
open Go.RowKit

def arr16 (a b : Int) : Value := .agg #[.int .i16 a, .int .i16 b]

theorem conv16 (a : Int) (h0 : -32768 ≤ a) (h1 : a ≤ 32767) (w : World) : (convert 22 3 (.int .i16 a)).run Try.prog w = .ok (.int .i64 a) w := by
  have hw : IntKind.i64.wrap a = a := by simp [IntKind.wrap, IntKind.min, IntKind.max, IntKind.signed, IntKind.bits]; omega
  simp [convert, run_underlying Try.underlying22, run_underlying Try.underlying3, go_sem, hw]

theorem two_rows {W0 : World} {n : Nat} {t : TypeId} (cs ds : Array Value) (hz : W0.heap.size = n) :
    RowAt ((W0.alloc (.cells cs t)).alloc (.cells ds t)).drew n cs ∧ RowAt ((W0.alloc (.cells cs t)).alloc (.cells ds t)).drew (n + 1) ds := by
  subst hz
  refine ⟨((RowAt.new W0 cs t).below ((Below.refl _ _).alloc (Nat.le_refl _) (.cells ds t)) : RowAt _ _ _), ?_⟩
  have h := RowAt.new (W0.alloc (.cells cs t)) ds t
  have hz : (W0.alloc (.cells cs t)).heap.size = W0.heap.size + 1 := by simp
  rw [hz] at h
  exact h
theorem two_below {w W0 : World} {B : Nat} {o1 o2 : Obj} (h : Below B w W0) (hz : B ≤ W0.heap.size) : Below B w ((W0.alloc o1).alloc o2).drew :=
  below_drewN ((h.alloc hz o1).alloc (by simp; omega) o2) 1

set_option maxHeartbeats 1000000 in
theorem walk_overlaps (a0 a1 b0 b1 : Int) (ha0 : -32768 ≤ a0 ∧ a0 ≤ 32767) (ha1 : -32768 ≤ a1 ∧ a1 ≤ 32767) (hb0 : -32768 ≤ b0 ∧ b0 ≤ 32767) (hb1 : -32768 ≤ b1 ∧ b1 ≤ 32767) (w : World) :
    Calls Try.prog 3 #[arr16 a0 a1, arr16 b0 b1] w fun x w' => x = .returned (.bool true) ∧ Below w.heap.size w w' := by
  have k0 := conv16 a0 ha0.1 ha0.2
  have k1 := conv16 a1 ha1.1 ha1.2
  have k2 := conv16 b0 hb0.1 hb0.2
  have k3 := conv16 b1 hb1.1 hb1.2
  clear ha0 ha1 hb0 hb1
  unfold arr16
  go_enter Try.func3, Try.ntmps3
  go_wp2_with fail
  have m0 : (allocs w [.cells #[.int .i16 a0, .int .i16 a1] 23, .cells #[.int .i16 b0, .int .i16 b1] 23]).cell? ⟨w.heap.size, 0, none⟩ = some (.int .i16 a0) := allocs_row (i := 0) rfl rfl 0 _ rfl
  have m1 : (allocs w [.cells #[.int .i16 a0, .int .i16 a1] 23, .cells #[.int .i16 b0, .int .i16 b1] 23]).cell? ⟨w.heap.size, 1, none⟩ = some (.int .i16 a1) := allocs_row (i := 0) rfl rfl 1 _ rfl
  have m2 : (allocs w [.cells #[.int .i16 a0, .int .i16 a1] 23, .cells #[.int .i16 b0, .int .i16 b1] 23]).cell? ⟨w.heap.size + 1, 0, none⟩ = some (.int .i16 b0) := allocs_row (i := 1) rfl rfl 0 _ rfl
  have m3 : (allocs w [.cells #[.int .i16 a0, .int .i16 a1] 23, .cells #[.int .i16 b0, .int .i16 b1] 23]).cell? ⟨w.heap.size + 1, 1, none⟩ = some (.int .i16 b1) := allocs_row (i := 1) rfl rfl 1 _ rfl
  have hz : (allocs w [.cells #[.int .i16 a0, .int .i16 a1] 23, .cells #[.int .i16 b0, .int .i16 b1] 23]).heap.size = w.heap.size + 2 := allocs_size _ _
  have HB := Lib.hid (allocs_below [.cells #[.int .i16 a0, .int .i16 a1] 23, .cells #[.int .i16 b0, .int .i16 b1] 23] w w.heap.size (Nat.le_refl _))
  change Code.wp _ _ _ _ (allocs w [.cells #[.int .i16 a0, .int .i16 a1] 23, .cells #[.int .i16 b0, .int .i16 b1] 23])
  generalize allocs w [.cells #[.int .i16 a0, .int .i16 a1] 23, .cells #[.int .i16 b0, .int .i16 b1] 23] = W0 at *
  obtain ⟨A, hA⟩ : ∃ A, w.heap.size = A := ⟨_, rfl⟩
  have HB' := Lib.hid (show Below A w W0 from hA ▸ HB.out)
  rw [hA] at m0 m1 m2 m3 hz ⊢
  clear HB
  have y0 := World.new_ne W0 _ m0
  have y1 := World.new_ne W0 _ m1
  have y2 := World.new_ne W0 _ m2
  have y3 := World.new_ne W0 _ m3
  go_upto_region 1 with fail
  go_cut [5, 6] (fun v5 v6 wx => ∃ p5 p6, v5 = .pointer (some ⟨p5, 0, none⟩) ∧ v6 = .pointer (some ⟨p6, 0, none⟩) ∧ Below A w wx ∧ RowAt wx p5 #[.int .i64 a0, .int .i64 a1] ∧ RowAt wx p6 #[.int .i64 b0, .int .i64 b1])
  case first =>
    go_region_held3 (fun w' => w'.cell? ⟨A, 0, none⟩ = some (.int .i16 a0) ∧ w'.cell? ⟨A, 1, none⟩ = some (.int .i16 a1) ∧ w'.cell? ⟨A + 1, 0, none⟩ = some (.int .i16 b0) ∧ w'.cell? ⟨A + 1, 1, none⟩ = some (.int .i16 b1)) (go_keep) (first | fail)
    all_goals go_wp2_with fail
    all_goals go_meet
    · exact ⟨A + 2, A + 2 + 1, rfl, rfl, two_below HB'.out (by omega), (two_rows _ _ hz).1, (two_rows _ _ hz).2⟩
    · exact ⟨A + 2 + 1, A + 2, rfl, rfl, two_below HB'.out (by omega), (two_rows _ _ hz).2, (two_rows _ _ hz).1⟩
  case rest =>
    obtain ⟨p5, p6, rfl, rfl, hbx, r5, r6⟩ := hcut
    clear m0 m1 m2 m3 hz y0 y1 y2 y3 HB' k0 k1 k2 k3
    rw [← hA] at hbx
    have HB := Lib.hid hbx
    have R5 := Lib.hid r5
    have R6 := Lib.hid r6
    have c50 : wc.cell? ⟨p5, 0, none⟩ = some (.int .i64 a0) := r5 0 _ rfl
    have c51 : wc.cell? ⟨p5, 1, none⟩ = some (.int .i64 a1) := r5 1 _ rfl
    have c60 : wc.cell? ⟨p6, 0, none⟩ = some (.int .i64 b0) := r6 0 _ rfl
    have c61 : wc.cell? ⟨p6, 1, none⟩ = some (.int .i64 b1) := r6 1 _ rfl
    clear hbx r5 r6
    by_cases h1 : a1 ≤ a0
    · have h1' : decide (a1 ≤ a0) = true := by simpa using h1
      clear h1
      go_wp2_with fail
      refine (awake _).mono ?_
      rintro e w1 ⟨rfl, hb⟩
      have HB1 := Lib.hid (HB.out.trans (hb.mono HB.out.size))
      clear hb c50 c51 c60 c61
      go_wp2
      go_ret
      exact ⟨rfl, HB1.out⟩
    · have h1' : decide (a1 ≤ a0) = false := by simpa using h1
      by_cases h2 : b1 ≤ b0
      · have h2' : decide (b1 ≤ b0) = true := by simpa using h2
        clear h1 h2
        go_wp2_with fail
        refine (awake _).mono ?_
        rintro e w1 ⟨rfl, hb⟩
        have HB1 := Lib.hid (HB.out.trans (hb.mono HB.out.size))
        clear hb c50 c51 c60 c61
        go_wp2
        go_ret
        exact ⟨rfl, HB1.out⟩
      · have h2' : decide (b1 ≤ b0) = false := by simpa using h2
        have hx : a0 < a1 := by omega
        have hy : b0 < b1 := by omega
        have F5 := Lib.hid (fun w => impl_frags a0 a1 b0 b1 hx hy w)
        have F6 := Lib.hid (fun w => impl_locs a0 a1 b0 b1 hx hy w)
        clear h1 h2 hx hy
        unfold want at F5 F6
        obtain ⟨m1, hm1⟩ : ∃ m, (if a0 < b0 then b0 else a0) = m := ⟨_, rfl⟩
        obtain ⟨m2, hm2⟩ : ∃ m, (if b1 < a1 then b1 else a1) = m := ⟨_, rfl⟩
        rw [hm1, hm2] at F5 F6
        obtain ⟨v, hv⟩ : ∃ v, decide (m1 < m2) = v := ⟨_, rfl⟩
        rw [hv] at F5 F6
        go_wp2_with fail
        refine (awake _).mono ?_
        rintro e w1 ⟨rfl, hb⟩
        have HB1 := Lib.hid (HB.out.trans (hb.mono HB.out.size))
        have R51 := Lib.hid (R5.out.below hb)
        have R61 := Lib.hid (R6.out.below hb)
        have d50 : w1.cell? ⟨p5, 0, none⟩ = some (.int .i64 a0) := R51.out 0 _ rfl
        have d51 : w1.cell? ⟨p5, 1, none⟩ = some (.int .i64 a1) := R51.out 1 _ rfl
        have d60 : w1.cell? ⟨p6, 0, none⟩ = some (.int .i64 b0) := R61.out 0 _ rfl
        have d61 : w1.cell? ⟨p6, 1, none⟩ = some (.int .i64 b1) := R61.out 1 _ rfl
        clear hb c50 c51 c60 c61 HB R5 R6 hm1 hm2 hv h1' h2'
        go_wp2_with fail
        refine (F5.out _).mono ?_
        rintro e w2 ⟨rfl, hb⟩
        have HB2 := Lib.hid (HB1.out.trans (hb.mono HB1.out.size))
        have R52 := Lib.hid (R51.out.below hb)
        have R62 := Lib.hid (R61.out.below hb)
        have e50 : w2.cell? ⟨p5, 0, none⟩ = some (.int .i64 a0) := R52.out 0 _ rfl
        have e51 : w2.cell? ⟨p5, 1, none⟩ = some (.int .i64 a1) := R52.out 1 _ rfl
        have e60 : w2.cell? ⟨p6, 0, none⟩ = some (.int .i64 b0) := R62.out 0 _ rfl
        have e61 : w2.cell? ⟨p6, 1, none⟩ = some (.int .i64 b1) := R62.out 1 _ rfl
        clear hb d50 d51 d60 d61 HB1 R51 R61
        go_wp2_with fail
        refine (F6.out _).mono ?_
        rintro e w3 ⟨rfl, hb⟩
        have HB3 := Lib.hid (HB2.out.trans (hb.mono HB2.out.size))
        clear hb e50 e51 e60 e61 HB2 R52 R62
        go_wp2
        go_ret
        exact ⟨by simp, HB3.out⟩
end Go.Proofs.Ytbfelpgojgaeoaa
