/- What the rows of this seat share: the two tables of package numeric as the rows list them, a world that holds them, a post out of 'Below'. -/
import Derived.Test.YtkhmomagjkdcdaaDoorWeave
import Derived.Test.YtkhmomagjkdcdaaDoorCards
import Derived.Test.YtkhmomagjkdcdaaDoorTie
import Derived.ProofKit
import Derived.OpenShut
import Derived.Deep.DeepHandedRow
import Derived.Lib.LaidTab
set_option linter.unusedVariables false
set_option linter.unusedSimpArgs false
namespace Go.Proofs.YtkhmomagjkdcdaaDoor
open Go.ChangeShapes Go.WideShapes Go.ChangeAt Go.RowKit

theorem laidOut : laidOutB Tryd.prog = true := by kernel_rfl
theorem own : ownKnob Tryd.prog.godebug = none := by kernel_rfl
theorem gMagic : Tryd.prog.globalNamed "pub-thornbush/pub/bleve/numeric.interleaveMagic" = some 2 := by kernel_rfl
theorem gMagicType : (Tryd.prog.globals[2]?).map (·.type) = some 71 := by kernel_rfl
theorem gShift : Tryd.prog.globalNamed "pub-thornbush/pub/bleve/numeric.interleaveShift" = some 1 := by kernel_rfl
theorem gShiftType : (Tryd.prog.globals[1]?).map (·.type) = some 70 := by kernel_rfl
theorem cells71 : Tryd.prog.cellsOf 71 = 7 := by kernel_rfl
theorem cells70 : Tryd.prog.cellsOf 70 = 5 := by kernel_rfl
theorem cells33 : Tryd.prog.cellsOf 33 = 1 := by kernel_rfl
theorem cells22 : Tryd.prog.cellsOf 22 = 1 := by kernel_rfl

theorem tabIs_second {P : Program} {W : World} {name : String} {k : IntKind} {zs : List Int} {x : String × DataW Unit} {rest : List (String × DataW Unit)} {g : Nat} {t e : TypeId} {n : Nat}
    (hg : P.globalNamed name = some g) (hty : (P.globals[g]?).map (·.type) = some t) (ht : P.underlying t = some (.array n e)) (he : P.underlying e = some (.int k)) (hce : P.cellsOf e = 1) (hct : P.cellsOf t = n)
    (h : laidMet P (x :: (name, Lib.tabData k zs) :: rest) W) : Lib.TabIs P W name k zs := by
  obtain ⟨ps, ⟨_, _, _, _, _, _, _, _, _, _, ⟨g', t', cs, fuel, p, q, hg', ht', hvar, hd, _, _⟩, _⟩, _⟩ := h
  obtain rfl := Option.some.inj (hg.symm.trans hg')
  obtain rfl := Option.some.inj (hty.symm.trans ht')
  unfold Lib.TabIs
  rw [hvar, ← Lib.cells_of_tab ht he hce hct hd]

def laidOf : List (String × DataW Unit) := Rows.fnPrefixOrderRow.laid

theorem tabs_of_laid {W : World} (h : laidMetH Tryd.prog laidOf W) : Tabs W := by
  have m : Lib.TabIs Tryd.prog W "pub-thornbush/pub/bleve/numeric.interleaveMagic" .u64 [6148914691236517205, 3689348814741910323, 1085102592571150095, 71777214294589695, 281470681808895, 4294967295, 12297829382473034410] :=
    Lib.tabIs_of_head (rest := [("pub-thornbush/pub/bleve/numeric.interleaveShift", Rows.laid_pub_thornbush_pub_bleve_numeric_interleaveShift)]) gMagic gMagicType Tryd.underlying71 Tryd.underlying33 cells33 cells71 h
  have s : Lib.TabIs Tryd.prog W "pub-thornbush/pub/bleve/numeric.interleaveShift" .u64 [1, 2, 4, 8, 16] :=
    tabIs_second (x := ("pub-thornbush/pub/bleve/numeric.interleaveMagic", Rows.laid_pub_thornbush_pub_bleve_numeric_interleaveMagic)) (rest := []) gShift gShiftType Tryd.underlying70 Tryd.underlying22 cells22 cells70 h
  exact ⟨s.cell gShift 0 (by decide), s.cell gShift 1 (by decide), s.cell gShift 2 (by decide), s.cell gShift 3 (by decide), s.cell gShift 4 (by decide),
    m.cell gMagic 0 (by decide), m.cell gMagic 1 (by decide), m.cell gMagic 2 (by decide), m.cell gMagic 3 (by decide), m.cell gMagic 4 (by decide), m.cell gMagic 5 (by decide)⟩

def lay (cs : Array Value) : Obj → Obj
  | .cells _ t frozen => .cells cs t frozen
  | o => o
def shiftCells : Array Value := #[.int .u64 1, .int .u64 2, .int .u64 4, .int .u64 8, .int .u64 16]
def magicCells : Array Value := #[.int .u64 6148914691236517205, .int .u64 3689348814741910323, .int .u64 1085102592571150095, .int .u64 71777214294589695, .int .u64 281470681808895, .int .u64 4294967295, .int .u64 12297829382473034410]
/-- A world for the witness: the settled one, both tables holding what their initialisers lay. -/
noncomputable def laidWorld (os : Os) : World :=
  let w0 := World.holding Tryd.prog os ⟨#[], #[], []⟩
  { w0 with heap := (w0.heap.modify 1 (lay shiftCells)).modify 2 (lay magicCells) }
end Go.Proofs.YtkhmomagjkdcdaaDoor
