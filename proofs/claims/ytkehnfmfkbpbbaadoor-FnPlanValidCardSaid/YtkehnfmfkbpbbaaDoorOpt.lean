/- The contracts of impl.PlanOptions.options and of RaiseToFloorSegmentSize. -/
import Derived.Test.YtkehnfmfkbpbbaaDoorSafe
import Derived.Test.YtkehnfmfkbpbbaaDoorLib
import Derived.Laws.Externs
import Derived.WalkLawsBesides
import Derived.StillTailTactics
set_option linter.unusedVariables false
set_option linter.unusedSimpArgs false
namespace Go.Proofs.YtkehnfmfkbpbbaaDoor
open Go.RowKit

theorem frombits (n : Int) (w : World) : (callFunc 14 #[.int .u64 n]).run Tryd.prog w = .ok (.value (.float .f64 n.toNat)) w := by
  rw [run_callFunc_extern (e := Extern.MathFloatBits.float64frombits) Tryd.func14 (by kernel_rfl) (by kernel_rfl) (by kernel_rfl) (by kernel_rfl)]
  rfl

def optsV (a b c d e f g h : Int) : Value := .agg #[.int .i64 a, .int .i64 b, .int .i64 c, .int .i64 d, .int .u64 e, .int .u64 f, .int .i64 g, .int .i64 h]

def optC (a b c d e f g h : Int) : Array Value := #[.int .i64 a, .int .i64 c, .int .i64 d, .float .f64 e.toNat, .int .i64 b, .int .i64 g, .int .i64 h, .float .f64 f.toNat, .nilFunc, .nilFunc, .nilFunc]
/-- The cells of a block from its beginning on. -/
def RowAt (w : World) (p : Nat) (cs : Array Value) : Prop := ∀ i x, cs[i]? = some x → w.cell? ⟨p, i, none⟩ = some x
theorem RowAt.new (w : World) (cs : Array Value) (t : TypeId) : RowAt (w.alloc (.cells cs t)) w.heap.size cs := by
  intro i x hx; unfold World.cell?; rw [heap_alloc_new]; exact hx
theorem RowAt.below {w w' : World} {p : Nat} {cs : Array Value} (h : RowAt w p cs) (hb : Below w.heap.size w w') : RowAt w' p cs :=
  fun i x hx => cell_below hb (World.block_lt_of_cell? w _ (h i x hx)) (h i x hx)

theorem options (a b c d e f g h : Int) (w : World) :
    Calls Tryd.prog 9 #[optsV a b c d e f g h] w fun x w' => ∃ p, x = .returned (.pointer (some ⟨p, 0, none⟩)) ∧ w.heap.size ≤ p ∧ RowAt w' p (optC a b c d e f g h) ∧ Below w.heap.size w w' := by
  have k1 := frombits e
  have k2 := frombits f
  unfold optsV
  go_enter Tryd.func9, Tryd.ntmps9
  go_wp2_with fail
  have hB : Below w.heap.size w (w.alloc (.cells #[.int .i64 a, .int .i64 b, .int .i64 c, .int .i64 d, .int .u64 e, .int .u64 f, .int .i64 g, .int .i64 h] 24)) := (Below.refl _ _).alloc (Nat.le_refl _) _
  have hr := RowAt.new w #[.int .i64 a, .int .i64 b, .int .i64 c, .int .i64 d, .int .u64 e, .int .u64 f, .int .i64 g, .int .i64 h] 24
  generalize w.alloc (.cells #[.int .i64 a, .int .i64 b, .int .i64 c, .int .i64 d, .int .u64 e, .int .u64 f, .int .i64 g, .int .i64 h] 24) = W1 at *
  have c0 := hr 0 _ rfl
  have c1 := hr 1 _ rfl
  have c2 := hr 2 _ rfl
  have c3 := hr 3 _ rfl
  have c4 := hr 4 _ rfl
  have c5 := hr 5 _ rfl
  have c6 := hr 6 _ rfl
  have c7 := hr 7 _ rfl
  have HB := Lib.hid (below_drewN hB 1)
  clear hr hB
  go_still_tail 19, (by kernel_rfl)
  change wpList _ _ _ _ _ (W1.drewN 1)
  clear c0 c1 c2 c3 c4 c5 c6 c7
  generalize W1.drewN 1 = W2 at *
  go_wp2
  go_ret
  exact ⟨_, rfl, HB.out.size, RowAt.new _ _ _, HB.out.alloc HB.out.size _⟩

theorem floor_size (p : Nat) (n a b c d e f g h : Int) (w : World) (hr : RowAt w p (optC a b c d e f g h)) :
    Calls Tryd.prog 13 #[.pointer (some ⟨p, 0, none⟩), .int .i64 n] w fun x w' => x = .returned (.int .i64 (max n g)) ∧ w = w' := by
  have c5 : w.cell? ⟨p, 5, none⟩ = some (.int .i64 g) := hr 5 _ rfl
  by_cases hlt : g < n
  · have hm : max n g = n := by omega
    rw [hm]
    go_enter Tryd.func13, Tryd.ntmps13
    go_wp2
    go_ret
    exact ⟨rfl, rfl⟩
  · have hm : max n g = g := by omega
    rw [hm]
    go_enter Tryd.func13, Tryd.ntmps13
    go_wp2
    go_ret
    exact ⟨rfl, rfl⟩

theorem raise_size (n a b c d e f g h : Int) (w : World) :
    Calls Tryd.prog 7 #[.int .i64 n, optsV a b c d e f g h] w fun x w' => x = .returned (.int .i64 (max n g)) ∧ Below w.heap.size w w' := by
  have hB : Below w.heap.size w (w.alloc (.cells #[.int .i64 a, .int .i64 b, .int .i64 c, .int .i64 d, .int .u64 e, .int .u64 f, .int .i64 g, .int .i64 h] 24)) := (Below.refl _ _).alloc (Nat.le_refl _) _
  have hr := RowAt.new w #[.int .i64 a, .int .i64 b, .int .i64 c, .int .i64 d, .int .u64 e, .int .u64 f, .int .i64 g, .int .i64 h] 24
  go_enter Tryd.func7, Tryd.ntmps7
  unfold optsV
  go_wp2_with fail
  refine (options a b c d e f g h _).mono ?_
  rintro x w1 ⟨p, rfl, hp, hr1, hb1⟩
  have HB := Lib.hid (hB.trans (hb1.mono hB.size))
  have HR := Lib.hid hr1
  clear hr hr1 hb1 hB
  go_wp2_with fail
  refine (floor_size p n a b c d e f g h _ HR.out).mono ?_
  rintro x w2 ⟨rfl, rfl⟩
  go_wp2
  go_ret
  exact ⟨rfl, HB.out⟩
end Go.Proofs.YtkehnfmfkbpbbaaDoor
