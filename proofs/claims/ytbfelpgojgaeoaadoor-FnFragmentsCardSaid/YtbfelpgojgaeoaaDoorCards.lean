/-
  DERIVED. GIVEN WITH THE SEED: THE CARDS: each row of YtbfelpgojgaeoaaDoorRows.lean that lists a variable, with what it lists TIED to the program's text (the seventh form; the later family's looks); each row that meets fmt, with fmt's text TOLD by the authors' own Lean function (tested against real Go, not proved from fmt's source: count such statements apart). THE CARD IS WHAT COUNTS. Prove the row's statement (the work); the ties are given (YtbfelpgojgaeoaaDoorTie.lean); close each card by the builder's one call (the guide's Derived/Test/ToyasCard.lean, 'card_holds'). Laid BY PROGRAM, IN A SANDBOX (cutbox-door.mjs). By AI agents, Wed Nov 11 2026. No macro, syntax, notation, axiom, sorry.
-/
import Derived.Test.YtbfelpgojgaeoaaDoorRows
import GoSem.ClaimSeven
namespace Go.Proofs.YtbfelpgojgaeoaaDoor
namespace Rows

/-- THE TIED CARD OF 'laws.FnFragments'. -/
def fnFragmentsCard : Claim7 := { stood := { row := fnFragmentsRow, standIns := [], harness := (true, "70bd7b76af29fc802e9f0cf51a83135b83f7094d9acb42913f3a10b47c7fff03"), looks := false }, kinds := [], alts := [], laidByText := true, laidKinds := [.data, .pinned], laidTests := true, laidLooks := .later }
def FnFragmentsCardSaid : Prop := Claim7.holds Tryd.pinned (.plain (OpenSpec.ofChange fnFragmentsSpec)) fnFragmentsCard

/-- THE SECOND FORM's CARD OF 'laws.FnFragments'. -/
def fnFragmentsUptoCard : Claim7 := { stood := { row := fnFragmentsUptoRow, standIns := [], harness := (true, "70bd7b76af29fc802e9f0cf51a83135b83f7094d9acb42913f3a10b47c7fff03"), looks := false }, kinds := [], alts := [], laidByText := true, laidKinds := [.data, .pinned], laidTests := true, laidLooks := .later }
def FnFragmentsUptoCardSaid : Prop := Claim7.holds Tryd.pinned (.plain (OpenSpec.upto fnFragmentsSpec)) fnFragmentsUptoCard
end Rows
end Go.Proofs.YtbfelpgojgaeoaaDoor
