/- What the row of laws.FnPlanValid lists: the error's variable as its initialiser lays it; a world that holds it. -/
import Derived.Test.YtkehnfmfkbpbbaaDoorLawValid
import Derived.Test.YtkehnfmfkbpbbaaDoorOpenOpts
import Derived.Test.YtkehnfmfkbpbbaaDoorCards
import Derived.Test.YtkehnfmfkbpbbaaDoorTie
import Derived.Lib.LaidTab
import Derived.Stop.LaidErr
set_option linter.unusedVariables false
set_option linter.unusedSimpArgs false
namespace Go.Proofs.YtkehnfmfkbpbbaaDoor
open Go.ChangeShapes Go.WideShapes Go.ChangeAt Go.RowKit
open Go.Extern.Stop Go.Stop Go.Extern

theorem gErr : Tryd.prog.globalNamed "pub-thornbush/pub/bleve/index/scorch/mergeplan.ErrMaxSegmentSizeTooLarge" = some 0 := by kernel_rfl
theorem gErrType : (Tryd.prog.globals[0]?).map (·.type) = some 30 := by kernel_rfl
theorem cellsEst : Tryd.prog.cellsOf 70 = 1 := by kernel_rfl
theorem cellsStr : Tryd.prog.cellsOf 9 = 1 := by kernel_rfl
theorem star : "*" ++ "errors.errorString" = "*errors.errorString" := by decide
theorem rowEs (u : TypeId) (h : Tryd.prog.typeName? 3 u = some "*errors.errorString") : u = 51 :=
  typeName_ptr_named (nm := "errors.errorString") (by rw [star]; kernel_rfl) (by kernel_rfl) (by decide) u (by rw [star]; exact h)

theorem tabs_of_laid {W : World} (h : laidMetH Tryd.prog Rows.fnPlanValidRow.laid W) : Told W := by
  obtain ⟨a, s, hv, _, _, _⟩ := laid_sentinel (r := []) h gErr gErrType Tryd.underlying30 rowEs Tryd.underlying51 Tryd.underlying70 rfl rfl Tryd.underlying9 cellsEst cellsStr
  exact ⟨a, by simpa using World.var?_cell gErr hv 0⟩

def text : ByteArray := { data := #[77, 97, 120, 83, 101, 103, 109, 101, 110, 116, 83, 105, 122, 101, 32, 101, 120, 99, 101, 101, 100, 115, 32, 116, 104, 101, 32, 115, 105, 122, 101, 32, 108, 105, 109, 105, 116] }
noncomputable def low : Nat := (World.holding Tryd.prog default ⟨#[], #[], []⟩).heap.size
noncomputable def laidWorld (os : Os) : World :=
  let w0 := World.holding Tryd.prog os ⟨#[.cells #[.string text] 70], #[], []⟩
  { w0 with heap := w0.heap.modify 0 fun
      | .cells _ t frozen => .cells #[.iface 51 (.pointer (some ⟨low, 0, none⟩))] t frozen
      | o => o }
end Go.Proofs.YtkehnfmfkbpbbaaDoor
