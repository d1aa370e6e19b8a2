/-
  DERIVED. GIVEN WITH THE SEED: THE PROGRAM's TIES (one call each: nine closed facts by the kernel) AND EACH ROW's TIE, after the 31st guide's Derived/Test/Toyas{Tie, Card}.lean. No idea stands in it: it is a product of the set-up. Laid BY PROGRAM, IN A SANDBOX (cutbox-door.mjs). By AI agents, Wed Nov 11 2026. No macro, syntax, notation, axiom, sorry.
-/
import Derived.Test.YtkhmomagjkdcdaaDoorRows
import Derived.LaidByTextLater
import Derived.SevenTiedAt
import Derived.LaidSub
import Derived.LaidOnce
namespace Go.Proofs.YtkhmomagjkdcdaaDoor
open Go
set_option maxRecDepth 100000
theorem seatTie1 : Tryd.prog.laidByTextLater [("pub-thornbush/pub/bleve/numeric.interleaveMagic", Rows.laid_pub_thornbush_pub_bleve_numeric_interleaveMagic), ("pub-thornbush/pub/bleve/numeric.interleaveShift", Rows.laid_pub_thornbush_pub_bleve_numeric_interleaveShift)] [.data, .data] true :=
  Program.laidByTextLater_by_one 19 8 8 (by kernel_rfl) (by kernel_rfl) (by kernel_rfl) (by kernel_rfl) (by kernel_rfl) (by kernel_rfl) (fun _ _ => by kernel_rfl)
theorem noOwnUnsafe : Tryd.pinned.checked.prog.headLifts.contains "ownunsafe" = false := by kernel_rfl
theorem tie : Tryd.prog.laidByTextLater [("pub-thornbush/pub/bleve/numeric.interleaveMagic", Rows.laid_pub_thornbush_pub_bleve_numeric_interleaveMagic), ("pub-thornbush/pub/bleve/numeric.interleaveShift", Rows.laid_pub_thornbush_pub_bleve_numeric_interleaveShift)] [.data, .data] true :=
  Program.laidByTextLater.sub seatTie1 ["pub-thornbush/pub/bleve/numeric.interleaveMagic", "pub-thornbush/pub/bleve/numeric.interleaveShift"] (by kernel_rfl) (by kernel_rfl)
theorem fnPrefixOrder_row_tie : Rows.fnPrefixOrderRow.laidByTextAt .later Tryd.pinned [.data, .data] true :=
  OpenClaim.laidByTextAt_later rfl rfl tie noOwnUnsafe
theorem fnPrefixFrom_row_tie : Rows.fnPrefixFromRow.laidByTextAt .later Tryd.pinned [.data, .data] true :=
  OpenClaim.laidByTextAt_later rfl rfl tie noOwnUnsafe
theorem fnInterleave_row_tie : Rows.fnInterleaveRow.laidByTextAt .later Tryd.pinned [.data, .data] true :=
  OpenClaim.laidByTextAt_later rfl rfl tie noOwnUnsafe
theorem fnFloatInt_row_tie : Rows.fnFloatIntRow.laidByTextAt .later Tryd.pinned [.data, .data] true :=
  OpenClaim.laidByTextAt_later rfl rfl tie noOwnUnsafe
theorem fnPrefixAny_row_tie : Rows.fnPrefixAnyRow.laidByTextAt .later Tryd.pinned [.data, .data] true :=
  OpenClaim.laidByTextAt_later rfl rfl tie noOwnUnsafe
theorem fnPrefix_row_tie : Rows.fnPrefixRow.laidByTextAt .later Tryd.pinned [.data, .data] true :=
  OpenClaim.laidByTextAt_later rfl rfl tie noOwnUnsafe
theorem fnPrefixOrderUpto_row_tie : Rows.fnPrefixOrderUptoRow.laidByTextAt .later Tryd.pinned [.data, .data] true :=
  OpenClaim.laidByTextAt_later rfl rfl tie noOwnUnsafe
theorem fnPrefixFromUpto_row_tie : Rows.fnPrefixFromUptoRow.laidByTextAt .later Tryd.pinned [.data, .data] true :=
  OpenClaim.laidByTextAt_later rfl rfl tie noOwnUnsafe
theorem fnInterleaveUpto_row_tie : Rows.fnInterleaveUptoRow.laidByTextAt .later Tryd.pinned [.data, .data] true :=
  OpenClaim.laidByTextAt_later rfl rfl tie noOwnUnsafe
theorem fnFloatIntUpto_row_tie : Rows.fnFloatIntUptoRow.laidByTextAt .later Tryd.pinned [.data, .data] true :=
  OpenClaim.laidByTextAt_later rfl rfl tie noOwnUnsafe
theorem fnPrefixAnyUpto_row_tie : Rows.fnPrefixAnyUptoRow.laidByTextAt .later Tryd.pinned [.data, .data] true :=
  OpenClaim.laidByTextAt_later rfl rfl tie noOwnUnsafe
theorem fnPrefixUpto_row_tie : Rows.fnPrefixUptoRow.laidByTextAt .later Tryd.pinned [.data, .data] true :=
  OpenClaim.laidByTextAt_later rfl rfl tie noOwnUnsafe
end Go.Proofs.YtkhmomagjkdcdaaDoor
