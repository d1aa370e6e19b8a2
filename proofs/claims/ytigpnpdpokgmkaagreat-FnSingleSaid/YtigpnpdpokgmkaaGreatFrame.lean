/- What the rows of this seat share. -/
import Derived.Test.YtigpnpdpokgmkaaGreatRows
import Derived.ProofKit
import Derived.OpenShut
import Derived.Deep.DeepHandedRow
set_option linter.unusedVariables false
set_option linter.unusedSimpArgs false
namespace Go.Proofs.YtigpnpdpokgmkaaGreat
open Go.ChangeShapes Go.WideShapes Go.ChangeAt Go.RowKit
theorem laidOut : laidOutB Tryz.prog = true := by kernel_rfl
theorem own : ownKnob Tryz.prog.godebug = none := by kernel_rfl
end Go.Proofs.YtigpnpdpokgmkaaGreat
