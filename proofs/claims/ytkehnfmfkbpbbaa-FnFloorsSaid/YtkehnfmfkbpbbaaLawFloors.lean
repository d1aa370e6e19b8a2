/- The walk of laws.FnFloors: true whatever the number and the options. -/
import Derived.Test.YtkehnfmfkbpbbaaBudget
set_option linter.unusedVariables false
set_option linter.unusedSimpArgs false
namespace Go.Proofs.Ytkehnfmfkbpbbaa
open Go.RowKit

theorem floor_file (p : Nat) (n a b c d e f g h : Int) (w : World) (hr : RowAt w p (optC a b c d e f g h)) :
    Calls Try.prog 10 #[.pointer (some ⟨p, 0, none⟩), .int .i64 n] w fun x w' => x = .returned (.int .i64 (max n h)) ∧ w = w' := by
  have c5 : w.cell? ⟨p, 6, none⟩ = some (.int .i64 h) := hr 6 _ rfl
  by_cases hlt : h < n
  · have hm : max n h = n := by omega
    rw [hm]
    go_enter Try.func10, Try.ntmps10
    go_wp2
    go_ret
    exact ⟨rfl, rfl⟩
  · have hm : max n h = h := by omega
    rw [hm]
    go_enter Try.func10, Try.ntmps10
    go_wp2
    go_ret
    exact ⟨rfl, rfl⟩

theorem raise_file (n a b c d e f g h : Int) (w : World) :
    Calls Try.prog 6 #[.int .i64 n, optsV a b c d e f g h] w fun x w' => x = .returned (.int .i64 (max n h)) ∧ Below w.heap.size w w' := by
  have hB : Below w.heap.size w (w.alloc (.cells #[.int .i64 a, .int .i64 b, .int .i64 c, .int .i64 d, .int .u64 e, .int .u64 f, .int .i64 g, .int .i64 h] 24)) := (Below.refl _ _).alloc (Nat.le_refl _) _
  have hr := RowAt.new w #[.int .i64 a, .int .i64 b, .int .i64 c, .int .i64 d, .int .u64 e, .int .u64 f, .int .i64 g, .int .i64 h] 24
  go_enter Try.func6, Try.ntmps6
  unfold optsV
  go_wp2_with fail
  refine (options a b c d e f g h _).mono ?_
  rintro x w1 ⟨p, rfl, hp, hr1, hb1⟩
  have HB := Lib.hid (hB.trans (hb1.mono hB.size))
  have HR := Lib.hid hr1
  clear hr hr1 hb1 hB
  go_wp2_with fail
  refine (floor_file p n a b c d e f g h _ HR.out).mono ?_
  rintro x w2 ⟨rfl, rfl⟩
  go_wp2
  go_ret
  exact ⟨rfl, HB.out⟩

theorem rowBelow {w w1 : World} {p : Nat} {cs : Array Value} (hb : Below w.heap.size w w1) (h : RowAt w p cs) : RowAt w1 p cs := h.below hb
def optRow (a b c d e f g h : Int) : Array Value := #[.int .i64 a, .int .i64 b, .int .i64 c, .int .i64 d, .int .u64 e, .int .u64 f, .int .i64 g, .int .i64 h]
theorem facts8 {w : World} {p : Nat} {a b c d e f g h : Int} (r : RowAt w p (optRow a b c d e f g h)) :
    w.cell? ⟨p, 0, none⟩ = some (.int .i64 a) ∧ w.cell? ⟨p, 1, none⟩ = some (.int .i64 b) ∧ w.cell? ⟨p, 2, none⟩ = some (.int .i64 c) ∧ w.cell? ⟨p, 3, none⟩ = some (.int .i64 d) ∧
    w.cell? ⟨p, 4, none⟩ = some (.int .u64 e) ∧ w.cell? ⟨p, 5, none⟩ = some (.int .u64 f) ∧ w.cell? ⟨p, 6, none⟩ = some (.int .i64 g) ∧ w.cell? ⟨p, 7, none⟩ = some (.int .i64 h) :=
  ⟨r 0 _ rfl, r 1 _ rfl, r 2 _ rfl, r 3 _ rfl, r 4 _ rfl, r 5 _ rfl, r 6 _ rfl, r 7 _ rfl⟩

theorem max_if (a b : Int) : max a b = if a < b then b else a := by split <;> omega
theorem raise_size_if (n a b c d e f g h m : Int) (hm : (if n < g then g else n) = m) (w : World) :
    Calls Try.prog 5 #[.int .i64 n, optsV a b c d e f g h] w fun x w' => x = .returned (.int .i64 m) ∧ Below w.heap.size w w' := by
  rw [← hm, ← max_if]; exact raise_size n a b c d e f g h w
theorem raise_file_if (n a b c d e f g h m : Int) (hm : (if n < h then h else n) = m) (w : World) :
    Calls Try.prog 6 #[.int .i64 n, optsV a b c d e f g h] w fun x w' => x = .returned (.int .i64 m) ∧ Below w.heap.size w w' := by
  rw [← hm, ← max_if]; exact raise_file n a b c d e f g h w

set_option maxHeartbeats 1000000 in
theorem walk_floors (n a b c d e f g h : Int) (w : World) :
    Calls Try.prog 3 #[.int .i64 n, optsV a b c d e f g h] w fun x w' => x = .returned (.bool true) ∧ Below w.heap.size w w' := by
  have hB : Below w.heap.size w (w.alloc (.cells (optRow a b c d e f g h) 24)) := (Below.refl _ _).alloc (Nat.le_refl _) _
  have r0 := RowAt.new w (optRow a b c d e f g h) 24
  obtain ⟨m1, hm1⟩ : ∃ m, (if n < g then g else n) = m := ⟨_, rfl⟩
  obtain ⟨m2, hm2⟩ : ∃ m, (if n < h then h else n) = m := ⟨_, rfl⟩
  have hp : w.heap.size < (w.alloc (.cells (optRow a b c d e f g h) 24)).heap.size := by simp
  go_enter Try.func3, Try.ntmps3
  unfold optsV
  go_wp2_with fail
  change Code.wp _ _ _ _ (w.alloc (.cells (optRow a b c d e f g h) 24))
  generalize w.alloc (.cells (optRow a b c d e f g h) 24) = W0 at *
  have HB := Lib.hid hB
  clear hB
  go_region_held3 (fun w' => w'.cell? ⟨w.heap.size, 0, none⟩ = some (.int .i64 a) ∧ w'.cell? ⟨w.heap.size, 1, none⟩ = some (.int .i64 b) ∧ w'.cell? ⟨w.heap.size, 2, none⟩ = some (.int .i64 c) ∧ w'.cell? ⟨w.heap.size, 3, none⟩ = some (.int .i64 d) ∧ w'.cell? ⟨w.heap.size, 4, none⟩ = some (.int .u64 e) ∧ w'.cell? ⟨w.heap.size, 5, none⟩ = some (.int .u64 f) ∧ w'.cell? ⟨w.heap.size, 6, none⟩ = some (.int .i64 g) ∧ w'.cell? ⟨w.heap.size, 7, none⟩ = some (.int .i64 h))
    (first | exact facts8 r3 | exact facts8 r2 | exact facts8 r1 | exact facts8 r0)
    (first
      | (go_at_call 4; refine (awake _).mono ?_; rintro x w1 ⟨rfl, hb1⟩; have r1 := rowBelow hb1 r0)
      | (go_at_call 5; refine (raise_size_if n a b c d e f g h m1 hm1 _).mono ?_; rintro x w2 ⟨rfl, hb2⟩; have r2 := rowBelow hb2 r1)
      | (go_at_call 6; refine (raise_file_if n a b c d e f g h m2 hm2 _).mono ?_; rintro x w3 ⟨rfl, hb3⟩; have r3 := rowBelow hb3 r2))
  all_goals
    have g1 : Below w.heap.size w w1 := (below_drewN HB.out 1).trans (hb1.mono HB.out.size)
    have g2 := g1.trans (hb2.mono g1.size)
    have g3 := Lib.hid (g2.trans (hb3.mono g2.size))
    clear g1 g2 hb1 hb2 hb3 r0 r1 r2 r3 hm1 hm2
    go_wp2
    go_ret
    exact ⟨rfl, g3.out⟩

theorem walk_floors_b (n a b c d e f g h : Int) (_ : -9223372036854775808 ≤ n) (_ : n ≤ 9223372036854775807) (w : World) :
    Calls Try.prog 3 #[.int .i64 n, optsV a b c d e f g h] w fun x w' => x = .returned (.bool true) ∧ Below w.heap.size w w' := walk_floors n a b c d e f g h w
end Go.Proofs.Ytkehnfmfkbpbbaa
