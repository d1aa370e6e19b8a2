/- The contract of the plain formatter's Format at 'abc' with the term from 1 to 2. -/
import Derived.Test.YtbfelpgojgaeoaaDoorLocs
import Derived.Deep.QuietTactic
import Derived.BigQuiet
import Derived.Laws.IdiomStrings
import Derived.Laws.AppendOwn
set_option linter.unusedVariables false
set_option linter.unusedSimpArgs false
namespace Go.Proofs.YtbfelpgojgaeoaaDoor
open Go.RowKit

def fragRow (ob cap : Nat) : Array Value := #[.slice (some ⟨ob, 0, none⟩) 3 cap, .slice none 0 0, .int .i64 0, .int .i64 3, .float .f64 0, .int .i64 0]
abbrev sA : ByteArray := { data := #[97] }
abbrev sB : ByteArray := { data := #[98] }
abbrev sC : ByteArray := { data := #[99] }

theorem equals_quiet (w : World) : Calls Tryd.prog 27 #[.slice none 0 0, .slice none 0 0] w fun x w' => x = .returned (.bool true) ∧ w' = w :=
  (equals_nil w).mono fun _ _ ⟨h1, h2⟩ => ⟨h1, h2.symm⟩

theorem conv1 (ob off cap : Nat) (b : UInt8) (w : World) (h : w.cell? ⟨ob, off, none⟩ = some (.int .u8 (b.toNat : Int))) (n : Nat) :
    (convert 42 9 (.slice (some ⟨ob, off, none⟩) 1 cap)).run Tryd.prog (w.drewN n) = .ok (.string ⟨#[b]⟩) (w.drewN n) := by
  have := run_convert_bytes_back (P := Tryd.prog) (w.drewN n) 42 9 5 ⟨ob, off, none⟩ cap [b] Tryd.underlying42 Tryd.underlying5 Tryd.underlying9 (fun j hj => by
    have hj0 : j = 0 := by simpa using hj
    subst hj0
    show w.cell? _ = _
    have : (⟨ob, off, none⟩ : Addr).add 0 = ⟨ob, off, none⟩ := by unfold Addr.add; split <;> simp_all
    rw [this]
    simpa using h)
  simpa using this

set_option maxHeartbeats 1000000 in
theorem format (p1 p2 ob cap g gcap pl : Nat) (w : World) (hcap : 3 ≤ cap) (hmax : cap ≤ 9223372036854775807) (h1 : RowAt w p1 (fmtRow ⟨#[60]⟩ ⟨#[62]⟩)) (h2 : RowAt w p2 (fragRow ob cap))
    (b0 : w.cell? ⟨ob, 0, none⟩ = some (.int .u8 97)) (b1 : w.cell? ⟨ob, 1, none⟩ = some (.int .u8 98)) (b2 : w.cell? ⟨ob, 2, none⟩ = some (.int .u8 99))
    (hg : w.cell? ⟨g, 0, none⟩ = some (.pointer (some ⟨pl, 0, none⟩))) (hl : RowAt w pl (locRow 1 2)) :
    Calls Tryd.prog 20 #[.pointer (some ⟨p1, 0, none⟩), .pointer (some ⟨p2, 0, none⟩), .slice (some ⟨g, 0, none⟩) 1 gcap] w fun x w' => x = .returned (.string ⟨#[97, 60, 98, 62, 99]⟩) ∧ ∃ d, w' = w.drewN d := by
  have q0 : w.cell? ⟨p1, 0, none⟩ = some (.string ⟨#[60]⟩) := h1 0 _ rfl
  have q1 : w.cell? ⟨p1, 1, none⟩ = some (.string ⟨#[62]⟩) := h1 1 _ rfl
  have f0 : w.cell? ⟨p2, 0, none⟩ = some (.slice (some ⟨ob, 0, none⟩) 3 cap) := h2 0 _ rfl
  have f1 : w.cell? ⟨p2, 1, none⟩ = some (.slice none 0 0) := h2 1 _ rfl
  have f2 : w.cell? ⟨p2, 2, none⟩ = some (.int .i64 0) := h2 2 _ rfl
  have f3 : w.cell? ⟨p2, 3, none⟩ = some (.int .i64 3) := h2 3 _ rfl
  have l1 : w.cell? ⟨pl, 1, none⟩ = some (.slice none 0 0) := hl 1 _ rfl
  have l3 : w.cell? ⟨pl, 3, none⟩ = some (.int .i64 1) := hl 3 _ rfl
  have l4 : w.cell? ⟨pl, 4, none⟩ = some (.int .i64 2) := hl 4 _ rfl
  have v0 := conv1 ob 0 cap 97 w b0
  have v1 := conv1 ob 1 (cap - 1) 98 w b1
  have v2 := conv1 ob 2 (cap - 2) 99 w b2
  clear h1 h2 hl b0 b1 b2
  go_enter Tryd.func20, Tryd.ntmps20
  go_wp2
  refine wp_loop_rounds 2 ?_
  simp only [rounds_succ]
  go_wp2_with fail
  go_quiet (first | (go_at_call 27; exact Calls.quiet_of_same (equals_quiet _)))
  go_wp2_with fail
  go_quiet (fail)
  go_wp2_with fail
  go_quiet (fail)
  go_wp2_with fail
  go_quiet (fail)
  go_wp2_with fail
  simp only [rounds_succ]
  go_wp2_with fail
  go_quiet (fail)
  go_wp2
  go_ret
  exact ⟨rfl, _, World.drewN_drewN _ _ _⟩
end Go.Proofs.YtbfelpgojgaeoaaDoor
