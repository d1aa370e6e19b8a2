/- The contracts of Overlaps of fragments and of term locations, and of the two functions of package impl over them. -/
import Derived.Test.YtbfelpgojgaeoaaFragText
set_option linter.unusedVariables false
set_option linter.unusedSimpArgs false
namespace Go.Proofs.Ytbfelpgojgaeoaa
open Go.RowKit

def fragZero (s e : Int) : Array Value := #[.slice none 0 0, .slice none 0 0, .int .i64 s, .int .i64 e, .float .f64 0, .int .i64 0]

/-- Whether two spans have a place in common, as the law asks. -/
def want (x0 x1 y0 y1 : Int) : Bool := decide ((if x0 < y0 then y0 else x0) < (if y1 < x1 then y1 else x1))

theorem frag_overlaps (p q : Nat) (x0 x1 y0 y1 : Int) (hx : x0 < x1) (hy : y0 < y1) (w : World) (h1 : RowAt w p (fragZero x0 x1)) (h2 : RowAt w q (fragZero y0 y1)) :
    Calls Try.prog 8 #[.pointer (some ⟨p, 0, none⟩), .pointer (some ⟨q, 0, none⟩)] w fun x w' => x = .returned (.bool (want x0 x1 y0 y1)) ∧ ∃ d, w' = w.drewN d := by
  have f2 : w.cell? ⟨p, 2, none⟩ = some (.int .i64 x0) := h1 2 _ rfl
  have f3 : w.cell? ⟨p, 3, none⟩ = some (.int .i64 x1) := h1 3 _ rfl
  have g2 : w.cell? ⟨q, 2, none⟩ = some (.int .i64 y0) := h2 2 _ rfl
  have g3 : w.cell? ⟨q, 3, none⟩ = some (.int .i64 y1) := h2 3 _ rfl
  clear h1 h2
  have step : ∀ b1 b2 b3 b4 v : Bool, decide (x0 ≤ y0) = b1 → decide (y0 < x1) = b2 → decide (y0 ≤ x0) = b3 → decide (x0 < y1) = b4 → v = (b1 && b2 || b3 && b4) → want x0 x1 y0 y1 = v →
      Calls Try.prog 8 #[.pointer (some ⟨p, 0, none⟩), .pointer (some ⟨q, 0, none⟩)] w fun x w' => x = .returned (.bool (want x0 x1 y0 y1)) ∧ ∃ d, w' = w.drewN d := by
    intro b1 b2 b3 b4 v h1 h2 h3 h4 hv hw
    rw [hw]
    have HV := Lib.hid hv
    clear hv hw hx hy
    go_enter Try.func8, Try.ntmps8
    go_wp2_with fail
    cases b1 with
    | true =>
      cases b2 with
      | true =>
        go_quiet (fail)
        go_wp2
        go_ret
        exact ⟨by simp [HV.out], _, rfl⟩
      | false =>
        go_quiet (fail)
        go_wp2_with fail
        cases b3 with
        | true =>
          cases b4 with
          | true =>
            go_quiet (fail)
            go_wp2
            go_ret
            exact ⟨by simp [HV.out], _, World.drewN_drewN _ _ _⟩
          | false =>
            go_quiet (fail)
            go_wp2
            go_ret
            exact ⟨by simp [HV.out], _, World.drewN_drewN _ _ _⟩
        | false =>
          go_quiet (fail)
          go_wp2
          go_ret
          exact ⟨by simp [HV.out], _, World.drewN_drewN _ _ _⟩
    | false =>
      go_quiet (fail)
      go_wp2_with fail
      cases b3 with
      | true =>
        cases b4 with
        | true =>
          go_quiet (fail)
          go_wp2
          go_ret
          exact ⟨by simp [HV.out], _, World.drewN_drewN _ _ _⟩
        | false =>
          go_quiet (fail)
          go_wp2
          go_ret
          exact ⟨by simp [HV.out], _, World.drewN_drewN _ _ _⟩
      | false =>
        go_quiet (fail)
        go_wp2
        go_ret
        exact ⟨by simp [HV.out], _, World.drewN_drewN _ _ _⟩
  refine step _ _ _ _ _ rfl rfl rfl rfl rfl ?_
  unfold want
  rw [Bool.eq_iff_iff]
  simp only [decide_eq_true_eq, Bool.or_eq_true, Bool.and_eq_true]
  split <;> split <;> omega
theorem drew2 (w : World) (a b : Nat) : ∃ d, (w.drewN a).drewN b = w.drewN d := ⟨_, World.drewN_drewN _ _ _⟩
theorem drew3 (w : World) (a b c : Nat) : ∃ d, ((w.drewN a).drewN b).drewN c = w.drewN d := by
  rw [World.drewN_drewN]; exact drew2 _ _ _

theorem same_nil (w : World) : Calls Try.prog 19 #[.slice none 0 0, .slice none 0 0] w fun x w' => x = .returned (.bool true) ∧ w' = w := by
  have he : ∀ w, (binOp .eql 38 (.slice none 0 0) (.slice none 0 0)).run Try.prog w = .ok (.bool true) w := fun w => by kernel_rfl
  go_enter Try.func19, Try.ntmps19
  go_wp2_with fail
  refine (equal_nil w).mono ?_
  rintro x w' ⟨rfl, rfl⟩
  go_wp2
  go_ret
  exact ⟨rfl, rfl⟩

theorem loc_overlaps (p q : Nat) (x0 x1 y0 y1 : Int) (hx : x0 < x1) (hy : y0 < y1) (w : World) (h1 : RowAt w p (locRow x0 x1)) (h2 : RowAt w q (locRow y0 y1)) :
    Calls Try.prog 9 #[.pointer (some ⟨p, 0, none⟩), .pointer (some ⟨q, 0, none⟩)] w fun x w' => x = .returned (.bool (want x0 x1 y0 y1)) ∧ ∃ d, w' = w.drewN d := by
  have f2 : w.cell? ⟨p, 3, none⟩ = some (.int .i64 x0) := h1 3 _ rfl
  have f3 : w.cell? ⟨p, 4, none⟩ = some (.int .i64 x1) := h1 4 _ rfl
  have g2 : w.cell? ⟨q, 3, none⟩ = some (.int .i64 y0) := h2 3 _ rfl
  have g3 : w.cell? ⟨q, 4, none⟩ = some (.int .i64 y1) := h2 4 _ rfl
  have f1 : w.cell? ⟨p, 1, none⟩ = some (.slice none 0 0) := h1 1 _ rfl
  have g1 : w.cell? ⟨q, 1, none⟩ = some (.slice none 0 0) := h2 1 _ rfl
  clear h1 h2
  have step : ∀ b1 b2 b3 b4 v : Bool, decide (x0 ≤ y0) = b1 → decide (y0 < x1) = b2 → decide (y0 ≤ x0) = b3 → decide (x0 < y1) = b4 → v = (b1 && b2 || b3 && b4) → want x0 x1 y0 y1 = v →
      Calls Try.prog 9 #[.pointer (some ⟨p, 0, none⟩), .pointer (some ⟨q, 0, none⟩)] w fun x w' => x = .returned (.bool (want x0 x1 y0 y1)) ∧ ∃ d, w' = w.drewN d := by
    intro b1 b2 b3 b4 v h1 h2 h3 h4 hv hw
    rw [hw]
    have HV := Lib.hid hv
    clear hv hw hx hy
    go_enter Try.func9, Try.ntmps9
    go_wp2_with fail
    go_quiet (first | (go_at_call 19; exact Calls.quiet_of_same (same_nil _)))
    go_wp2_with fail
    cases b1 with
    | true =>
      cases b2 with
      | true =>
        go_quiet (fail)
        go_wp2
        go_ret
        first | exact ⟨by simp [HV.out], drew3 _ _ _ _⟩ | exact ⟨by simp [HV.out], drew2 _ _ _⟩
      | false =>
        go_quiet (fail)
        go_wp2_with fail
        cases b3 with
        | true =>
          cases b4 with
          | true =>
            go_quiet (fail)
            go_wp2
            go_ret
            first | exact ⟨by simp [HV.out], drew3 _ _ _ _⟩ | exact ⟨by simp [HV.out], drew2 _ _ _⟩
          | false =>
            go_quiet (fail)
            go_wp2
            go_ret
            first | exact ⟨by simp [HV.out], drew3 _ _ _ _⟩ | exact ⟨by simp [HV.out], drew2 _ _ _⟩
        | false =>
          go_quiet (fail)
          go_wp2
          go_ret
          first | exact ⟨by simp [HV.out], drew3 _ _ _ _⟩ | exact ⟨by simp [HV.out], drew2 _ _ _⟩
    | false =>
      go_quiet (fail)
      go_wp2_with fail
      cases b3 with
      | true =>
        cases b4 with
        | true =>
          go_quiet (fail)
          go_wp2
          go_ret
          first | exact ⟨by simp [HV.out], drew3 _ _ _ _⟩ | exact ⟨by simp [HV.out], drew2 _ _ _⟩
        | false =>
          go_quiet (fail)
          go_wp2
          go_ret
          first | exact ⟨by simp [HV.out], drew3 _ _ _ _⟩ | exact ⟨by simp [HV.out], drew2 _ _ _⟩
      | false =>
        go_quiet (fail)
        go_wp2
        go_ret
        first | exact ⟨by simp [HV.out], drew3 _ _ _ _⟩ | exact ⟨by simp [HV.out], drew2 _ _ _⟩
  refine step _ _ _ _ _ rfl rfl rfl rfl rfl ?_
  unfold want
  rw [Bool.eq_iff_iff]
  simp only [decide_eq_true_eq, Bool.or_eq_true, Bool.and_eq_true]
  split <;> split <;> omega
def arr (a b : Int) : Value := .agg #[.int .i64 a, .int .i64 b]
theorem impl_frags (x0 x1 y0 y1 : Int) (hx : x0 < x1) (hy : y0 < y1) (w : World) :
    Calls Try.prog 5 #[arr x0 x1, arr y0 y1] w fun x w' => x = .returned (.bool (want x0 x1 y0 y1)) ∧ Below w.heap.size w w' := by
  unfold arr
  go_enter Try.func5, Try.ntmps5
  go_wp2_with fail
  change Calls _ _ _ (allocs w [.cells #[.int .i64 x0, .int .i64 x1] 24, .cells #[.int .i64 y0, .int .i64 y1] 24, .cells (fragZero x0 x1) 35, .cells (fragZero y0 y1) 35]) _
  refine (frag_overlaps _ _ x0 x1 y0 y1 hx hy _ (allocs_row (i := 2) rfl rfl) (allocs_row (i := 3) rfl rfl)).mono ?_
  rintro x w' ⟨rfl, d, rfl⟩
  have HB := Lib.hid (below_drewN (allocs_below [.cells #[.int .i64 x0, .int .i64 x1] 24, .cells #[.int .i64 y0, .int .i64 y1] 24, .cells (fragZero x0 x1) 35, .cells (fragZero y0 y1) 35] w w.heap.size (Nat.le_refl _)) d)
  generalize (allocs w _).drewN d = W at *
  go_wp2
  go_ret
  exact ⟨rfl, HB.out⟩

theorem impl_locs (x0 x1 y0 y1 : Int) (hx : x0 < x1) (hy : y0 < y1) (w : World) :
    Calls Try.prog 6 #[arr x0 x1, arr y0 y1] w fun x w' => x = .returned (.bool (want x0 x1 y0 y1)) ∧ Below w.heap.size w w' := by
  unfold arr
  go_enter Try.func6, Try.ntmps6
  go_wp2_with fail
  change Calls _ _ _ (allocs w [.cells #[.int .i64 x0, .int .i64 x1] 24, .cells #[.int .i64 y0, .int .i64 y1] 24, .cells (locRow x0 x1) 40, .cells (locRow y0 y1) 40]) _
  refine (loc_overlaps _ _ x0 x1 y0 y1 hx hy _ (allocs_row (i := 2) rfl rfl) (allocs_row (i := 3) rfl rfl)).mono ?_
  rintro x w' ⟨rfl, d, rfl⟩
  have HB := Lib.hid (below_drewN (allocs_below [.cells #[.int .i64 x0, .int .i64 x1] 24, .cells #[.int .i64 y0, .int .i64 y1] 24, .cells (locRow x0 x1) 40, .cells (locRow y0 y1) 40] w w.heap.size (Nat.le_refl _)) d)
  generalize (allocs w _).drewN d = W at *
  go_wp2
  go_ret
  exact ⟨rfl, HB.out⟩

end Go.Proofs.Ytbfelpgojgaeoaa
