/-
  DERIVED. GIVEN WITH THE SEED: THE CARDS: each row of YtkehnfmfkbpbbaaDoorRows.lean that lists a variable, with what it lists TIED to the program's text (the seventh form; the later family's looks); each row that meets fmt, with fmt's text TOLD by the authors' own Lean function (tested against real Go, not proved from fmt's source: count such statements apart). THE CARD IS WHAT COUNTS. Prove the row's statement (the work); the ties are given (YtkehnfmfkbpbbaaDoorTie.lean); close each card by the builder's one call (the guide's Derived/Test/ToyasCard.lean, 'card_holds'). Laid BY PROGRAM, IN A SANDBOX (cutbox-door.mjs). By AI agents, Wed Nov 11 2026. No macro, syntax, notation, axiom, sorry.
-/
import Derived.Test.YtkehnfmfkbpbbaaDoorRows
import GoSem.ClaimSeven
namespace Go.Proofs.YtkehnfmfkbpbbaaDoor
namespace Rows

/-- THE TIED CARD OF 'laws.FnPlanValid'. -/
def fnPlanValidCard : Claim7 := { stood := { row := fnPlanValidRow, standIns := [], harness := (true, "ce35582d81c16ccd5f25b12b62e2bcc0f27dcabaaca8ceb25413bfb44a972b50"), looks := false }, kinds := [], alts := [], laidByText := true, laidKinds := [.sentinel], laidTests := true, laidLooks := .later }
def FnPlanValidCardSaid : Prop := Claim7.holds Tryd.pinned (.plain (OpenSpec.ofChange fnPlanValidSpec)) fnPlanValidCard

/-- THE SECOND FORM's CARD OF 'laws.FnPlanValid'. -/
def fnPlanValidUptoCard : Claim7 := { stood := { row := fnPlanValidUptoRow, standIns := [], harness := (true, "ce35582d81c16ccd5f25b12b62e2bcc0f27dcabaaca8ceb25413bfb44a972b50"), looks := false }, kinds := [], alts := [], laidByText := true, laidKinds := [.sentinel], laidTests := true, laidLooks := .later }
def FnPlanValidUptoCardSaid : Prop := Claim7.holds Tryd.pinned (.plain (OpenSpec.upto fnPlanValidSpec)) fnPlanValidUptoCard
end Rows
end Go.Proofs.YtkehnfmfkbpbbaaDoor
