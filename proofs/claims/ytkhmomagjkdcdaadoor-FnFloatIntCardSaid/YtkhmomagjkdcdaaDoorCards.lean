/-
  DERIVED. GIVEN WITH THE SEED: THE CARDS: each row of YtkhmomagjkdcdaaDoorRows.lean that lists a variable, with what it lists TIED to the program's text (the seventh form; the later family's looks); each row that meets fmt, with fmt's text TOLD by the authors' own Lean function (tested against real Go, not proved from fmt's source: count such statements apart). THE CARD IS WHAT COUNTS. Prove the row's statement (the work); the ties are given (YtkhmomagjkdcdaaDoorTie.lean); close each card by the builder's one call (the guide's Derived/Test/ToyasCard.lean, 'card_holds'). Laid BY PROGRAM, IN A SANDBOX (cutbox-door.mjs). By AI agents, Wed Nov 11 2026. No macro, syntax, notation, axiom, sorry.
-/
import Derived.Test.YtkhmomagjkdcdaaDoorRows
import GoSem.ClaimSeven
namespace Go.Proofs.YtkhmomagjkdcdaaDoor
namespace Rows

/-- THE TIED CARD OF 'laws.FnPrefixOrder'. -/
def fnPrefixOrderCard : Claim7 := { stood := { row := fnPrefixOrderRow, standIns := [], harness := (true, "bc021b4066ff7b23b8afbe200c8c478a5e38816ed6aa2d83ee278527e4ec3c0c"), looks := false }, kinds := [], alts := [], laidByText := true, laidKinds := [.data, .data], laidTests := true, laidLooks := .later }
def FnPrefixOrderCardSaid : Prop := Claim7.holds Tryd.pinned (.plain (OpenSpec.ofChange fnPrefixOrderSpec)) fnPrefixOrderCard

/-- THE TIED CARD OF 'laws.FnPrefixFrom'. -/
def fnPrefixFromCard : Claim7 := { stood := { row := fnPrefixFromRow, standIns := [], harness := (true, "bc021b4066ff7b23b8afbe200c8c478a5e38816ed6aa2d83ee278527e4ec3c0c"), looks := false }, kinds := [], alts := [], laidByText := true, laidKinds := [.data, .data], laidTests := true, laidLooks := .later }
def FnPrefixFromCardSaid : Prop := Claim7.holds Tryd.pinned (.plain (OpenSpec.ofChange fnPrefixFromSpec)) fnPrefixFromCard

/-- THE TIED CARD OF 'laws.FnInterleave'. -/
def fnInterleaveCard : Claim7 := { stood := { row := fnInterleaveRow, standIns := [], harness := (true, "bc021b4066ff7b23b8afbe200c8c478a5e38816ed6aa2d83ee278527e4ec3c0c"), looks := false }, kinds := [], alts := [], laidByText := true, laidKinds := [.data, .data], laidTests := true, laidLooks := .later }
def FnInterleaveCardSaid : Prop := Claim7.holds Tryd.pinned (.plain (OpenSpec.ofChange fnInterleaveSpec)) fnInterleaveCard

/-- THE TIED CARD OF 'laws.FnFloatInt'. -/
def fnFloatIntCard : Claim7 := { stood := { row := fnFloatIntRow, standIns := [], harness := (true, "bc021b4066ff7b23b8afbe200c8c478a5e38816ed6aa2d83ee278527e4ec3c0c"), looks := false }, kinds := [], alts := [], laidByText := true, laidKinds := [.data, .data], laidTests := true, laidLooks := .later }
def FnFloatIntCardSaid : Prop := Claim7.holds Tryd.pinned (.plain (OpenSpec.ofChange fnFloatIntSpec)) fnFloatIntCard

/-- THE TIED CARD OF 'laws.FnPrefixAny'. -/
def fnPrefixAnyCard : Claim7 := { stood := { row := fnPrefixAnyRow, standIns := [], harness := (true, "bc021b4066ff7b23b8afbe200c8c478a5e38816ed6aa2d83ee278527e4ec3c0c"), looks := false }, kinds := [], alts := [], laidByText := true, laidKinds := [.data, .data], laidTests := true, laidLooks := .later }
def FnPrefixAnyCardSaid : Prop := Claim7.holds Tryd.pinned (.plain (OpenSpec.ofChange fnPrefixAnySpec)) fnPrefixAnyCard

/-- THE TIED CARD OF 'laws.FnPrefix'. -/
def fnPrefixCard : Claim7 := { stood := { row := fnPrefixRow, standIns := [], harness := (true, "bc021b4066ff7b23b8afbe200c8c478a5e38816ed6aa2d83ee278527e4ec3c0c"), looks := false }, kinds := [], alts := [], laidByText := true, laidKinds := [.data, .data], laidTests := true, laidLooks := .later }
def FnPrefixCardSaid : Prop := Claim7.holds Tryd.pinned (.plain (OpenSpec.ofChange fnPrefixSpec)) fnPrefixCard

/-- THE SECOND FORM's CARD OF 'laws.FnPrefixOrder'. -/
def fnPrefixOrderUptoCard : Claim7 := { stood := { row := fnPrefixOrderUptoRow, standIns := [], harness := (true, "bc021b4066ff7b23b8afbe200c8c478a5e38816ed6aa2d83ee278527e4ec3c0c"), looks := false }, kinds := [], alts := [], laidByText := true, laidKinds := [.data, .data], laidTests := true, laidLooks := .later }
def FnPrefixOrderUptoCardSaid : Prop := Claim7.holds Tryd.pinned (.plain (OpenSpec.upto fnPrefixOrderSpec)) fnPrefixOrderUptoCard

/-- THE SECOND FORM's CARD OF 'laws.FnPrefixFrom'. -/
def fnPrefixFromUptoCard : Claim7 := { stood := { row := fnPrefixFromUptoRow, standIns := [], harness := (true, "bc021b4066ff7b23b8afbe200c8c478a5e38816ed6aa2d83ee278527e4ec3c0c"), looks := false }, kinds := [], alts := [], laidByText := true, laidKinds := [.data, .data], laidTests := true, laidLooks := .later }
def FnPrefixFromUptoCardSaid : Prop := Claim7.holds Tryd.pinned (.plain (OpenSpec.upto fnPrefixFromSpec)) fnPrefixFromUptoCard

/-- THE SECOND FORM's CARD OF 'laws.FnInterleave'. -/
def fnInterleaveUptoCard : Claim7 := { stood := { row := fnInterleaveUptoRow, standIns := [], harness := (true, "bc021b4066ff7b23b8afbe200c8c478a5e38816ed6aa2d83ee278527e4ec3c0c"), looks := false }, kinds := [], alts := [], laidByText := true, laidKinds := [.data, .data], laidTests := true, laidLooks := .later }
def FnInterleaveUptoCardSaid : Prop := Claim7.holds Tryd.pinned (.plain (OpenSpec.upto fnInterleaveSpec)) fnInterleaveUptoCard

/-- THE SECOND FORM's CARD OF 'laws.FnFloatInt'. -/
def fnFloatIntUptoCard : Claim7 := { stood := { row := fnFloatIntUptoRow, standIns := [], harness := (true, "bc021b4066ff7b23b8afbe200c8c478a5e38816ed6aa2d83ee278527e4ec3c0c"), looks := false }, kinds := [], alts := [], laidByText := true, laidKinds := [.data, .data], laidTests := true, laidLooks := .later }
def FnFloatIntUptoCardSaid : Prop := Claim7.holds Tryd.pinned (.plain (OpenSpec.upto fnFloatIntSpec)) fnFloatIntUptoCard

/-- THE SECOND FORM's CARD OF 'laws.FnPrefixAny'. -/
def fnPrefixAnyUptoCard : Claim7 := { stood := { row := fnPrefixAnyUptoRow, standIns := [], harness := (true, "bc021b4066ff7b23b8afbe200c8c478a5e38816ed6aa2d83ee278527e4ec3c0c"), looks := false }, kinds := [], alts := [], laidByText := true, laidKinds := [.data, .data], laidTests := true, laidLooks := .later }
def FnPrefixAnyUptoCardSaid : Prop := Claim7.holds Tryd.pinned (.plain (OpenSpec.upto fnPrefixAnySpec)) fnPrefixAnyUptoCard

/-- THE SECOND FORM's CARD OF 'laws.FnPrefix'. -/
def fnPrefixUptoCard : Claim7 := { stood := { row := fnPrefixUptoRow, standIns := [], harness := (true, "bc021b4066ff7b23b8afbe200c8c478a5e38816ed6aa2d83ee278527e4ec3c0c"), looks := false }, kinds := [], alts := [], laidByText := true, laidKinds := [.data, .data], laidTests := true, laidLooks := .later }
def FnPrefixUptoCardSaid : Prop := Claim7.holds Tryd.pinned (.plain (OpenSpec.upto fnPrefixSpec)) fnPrefixUptoCard
end Rows
end Go.Proofs.YtkhmomagjkdcdaaDoor
