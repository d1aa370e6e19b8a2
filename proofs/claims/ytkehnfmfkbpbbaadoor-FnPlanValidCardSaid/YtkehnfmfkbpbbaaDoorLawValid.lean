/- The walk of laws.FnPlanValid: true whatever the options, in a world where the variable for the error holds one. -/
import Derived.Test.YtkehnfmfkbpbbaaDoorBudget
set_option linter.unusedVariables false
set_option linter.unusedSimpArgs false
namespace Go.Proofs.YtkehnfmfkbpbbaaDoor
open Go.RowKit

/-- The variable of the error holds an error. -/
def Told (w : World) : Prop := ∃ a, w.cell? ⟨0, 0, none⟩ = some (.iface 51 (.pointer (some a)))
theorem Told.below {w w1 : World} (hb : Below w.heap.size w w1) (h : Told w) : Told w1 := by
  obtain ⟨a, h⟩ := h
  exact ⟨a, cell_below hb (World.block_lt_of_cell? w _ h) h⟩

theorem validate (p : Nat) (a b c d e f g h : Int) (hc : 2147483647 < c) (w : World) (hr : RowAt w p (optC a b c d e f g h)) (ht : Told w) :
    Calls Tryd.prog 8 #[.pointer (some ⟨p, 0, none⟩)] w fun x w' => (∃ q, x = .returned (.iface 51 (.pointer (some q)))) ∧ w = w' := by
  obtain ⟨q, hq⟩ := ht
  have c1 : w.cell? ⟨p, 1, none⟩ = some (.int .i64 c) := hr 1 _ rfl
  clear hr
  go_enter Tryd.func8, Tryd.ntmps8
  go_wp2
  go_ret
  exact ⟨⟨q, rfl⟩, rfl⟩

theorem plan_valid (a b c d e f g h : Int) (hc : 2147483647 < c) (w : World) (ht : Told w) :
    Calls Tryd.prog 5 #[optsV a b c d e f g h] w fun x w' => x = .returned (.bool false) ∧ Below w.heap.size w w' := by
  have hB : Below w.heap.size w (w.alloc (.cells #[.int .i64 a, .int .i64 b, .int .i64 c, .int .i64 d, .int .u64 e, .int .u64 f, .int .i64 g, .int .i64 h] 24)) := (Below.refl _ _).alloc (Nat.le_refl _) _
  have hT := ht.below hB
  have ht0 : ∀ (q : Addr) (w : World), (binOp .eql 30 (.iface 51 (.pointer (some q))) .nilIface).run Tryd.prog w = .ok (.bool false) w := fun q w => by kernel_rfl
  go_enter Tryd.func5, Tryd.ntmps5
  unfold optsV
  go_wp2_with fail
  refine (options a b c d e f g h _).mono ?_
  rintro x w1 ⟨p, rfl, hp, hr1, hb1⟩
  have HB := Lib.hid (hB.trans (hb1.mono hB.size))
  have HR := Lib.hid hr1
  have HT := Lib.hid (hT.below hb1)
  clear hr1 hb1 hB hT ht
  go_wp2_with fail
  refine (validate p a b c d e f g h hc _ HR.out HT.out).mono ?_
  rintro x w2 ⟨⟨q, rfl⟩, rfl⟩
  go_wp2
  go_ret
  exact ⟨rfl, HB.out⟩

def optRow (a b c d e f g h : Int) : Array Value := #[.int .i64 a, .int .i64 b, .int .i64 c, .int .i64 d, .int .u64 e, .int .u64 f, .int .i64 g, .int .i64 h]

theorem walk_valid (a b c d e f g h : Int) (w : World) (ht : Told w) :
    Calls Tryd.prog 3 #[optsV a b c d e f g h] w fun x w' => x = .returned (.bool true) ∧ Below w.heap.size w w' := by
  have hB : Below w.heap.size w (w.alloc (.cells (optRow a b c d e f g h) 24)) := (Below.refl _ _).alloc (Nat.le_refl _) _
  have r0 := RowAt.new w (optRow a b c d e f g h) 24
  have hT := ht.below hB
  have step : ∀ t, decide (c ≤ 2147483647) = t → Calls Tryd.prog 3 #[optsV a b c d e f g h] w fun x w' => x = .returned (.bool true) ∧ Below w.heap.size w w' := by
    intro t hct
    go_enter Tryd.func3, Tryd.ntmps3
    unfold optsV
    go_wp2_with fail
    change Calls _ _ _ (w.alloc (.cells (optRow a b c d e f g h) 24)) _
    generalize w.alloc (.cells (optRow a b c d e f g h) 24) = W0 at *
    have HB := Lib.hid hB
    have HT := Lib.hid hT
    have HR := Lib.hid r0
    clear hB r0 hT ht
    refine (awake _).mono ?_
    rintro x w1 ⟨rfl, hb1⟩
    have g1 := Lib.hid (HB.out.trans (hb1.mono HB.out.size))
    have r1 := HR.out.below hb1
    have HT1 := Lib.hid (HT.out.below hb1)
    have e0 : w1.cell? ⟨w.heap.size, 0, none⟩ = some (.int .i64 a) := r1 0 _ rfl
    have e1 : w1.cell? ⟨w.heap.size, 1, none⟩ = some (.int .i64 b) := r1 1 _ rfl
    have e2 : w1.cell? ⟨w.heap.size, 2, none⟩ = some (.int .i64 c) := r1 2 _ rfl
    have e3 : w1.cell? ⟨w.heap.size, 3, none⟩ = some (.int .i64 d) := r1 3 _ rfl
    have e4 : w1.cell? ⟨w.heap.size, 4, none⟩ = some (.int .u64 e) := r1 4 _ rfl
    have e5 : w1.cell? ⟨w.heap.size, 5, none⟩ = some (.int .u64 f) := r1 5 _ rfl
    have e6 : w1.cell? ⟨w.heap.size, 6, none⟩ = some (.int .i64 g) := r1 6 _ rfl
    have e7 : w1.cell? ⟨w.heap.size, 7, none⟩ = some (.int .i64 h) := r1 7 _ rfl
    clear r1 hb1
    cases t with
    | true =>
      go_wp2
      go_ret
      exact ⟨rfl, g1.out⟩
    | false =>
      have hlt : 2147483647 < c := by have := of_decide_eq_false hct; omega
      go_wp2_with fail
      refine (plan_valid a b c d e f g h hlt _ HT1.out).mono ?_
      rintro x w2 ⟨rfl, hb2⟩
      have g2 := Lib.hid (g1.out.trans (hb2.mono g1.out.size))
      clear hb2 e0 e1 e2 e3 e4 e5 e6 e7
      go_wp2
      go_ret
      exact ⟨rfl, g2.out⟩
  exact step _ rfl
end Go.Proofs.YtkehnfmfkbpbbaaDoor
