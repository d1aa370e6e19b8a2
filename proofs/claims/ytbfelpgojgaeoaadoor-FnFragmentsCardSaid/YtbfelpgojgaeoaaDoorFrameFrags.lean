/- What the row shares: utf8's two tables as the row lists them, a world that holds them. -/
import Derived.Test.YtbfelpgojgaeoaaDoorShelfValid
import Derived.Test.YtbfelpgojgaeoaaDoorCards
import Derived.Test.YtbfelpgojgaeoaaDoorTie
import Derived.ProofKit
import Derived.OpenShut
import Derived.Lib.LaidU8T
import Derived.Lib.LaidIn
import Derived.Deep.DeepHandedRow
import Derived.Deep.DeepWitnessRowRef
set_option linter.unusedVariables false
set_option linter.unusedSimpArgs false
namespace Go.Proofs.YtbfelpgojgaeoaaDoor
open Go.ChangeShapes Go.WideShapes Go.ChangeAt Go.RowKit Go.Shelf

theorem laidOut : laidOutB Tryd.prog = true := by kernel_rfl
theorem own : ownKnob Tryd.prog.godebug = none := by kernel_rfl

theorem first_same : (Rows.laid_unicode_utf8_first : DataW Unit) = Lib.firstData := by kernel_rfl
theorem accept_same : (Rows.laid_unicode_utf8_acceptRanges : DataW Unit) = Lib.acceptData := by kernel_rfl

theorem tabs_of_laid {W : World} (hL : laidMetH Tryd.prog Rows.fnFragmentsRow.laid W) : Lib.Utf8Tabs 0 1 W := by
  have h1 := Lib.laidMet.reads hL (.head _)
  have h2 := Lib.laidMet.reads hL (.tail _ (.head _))
  rw [accept_same] at h1
  rw [first_same] at h2
  exact utf8Tabs_of_readsT (U8Types.of196 Tryd.lays196) ⟨by kernel_rfl, by kernel_rfl, by kernel_rfl, by kernel_rfl, by kernel_rfl, by kernel_rfl, by kernel_rfl⟩ h2 h1

/-- A world for the witness: the settled one, both tables holding what their initialisers lay. -/
noncomputable def laidWorld (os : Os) : World :=
  let w0 := World.holding Tryd.prog os ⟨#[], #[], []⟩
  let put (h : Array Obj) (g : Nat) (cs : Array Value) : Array Obj := h.modify g fun
    | .cells _ t frozen => .cells cs t frozen
    | o => o
  let h1 := put w0.heap 0 (Lib.firstTab.map fun z => Value.int .u8 z).toArray
  let h2 := put h1 1 ((List.range 16).flatMap fun i => [Value.int .u8 (Lib.accLo i), Value.int .u8 (Lib.accHi i)]).toArray
  { w0 with heap := h2 }
end Go.Proofs.YtbfelpgojgaeoaaDoor
