/-
  No cell of these rows narrows 'for every input' (looked for: loops, veiled, ifaces, maps, wideKeys, modest, calm, conditions, laid).
  DERIVED. THE GIVEN ROWS OF THIS SEAT. 5 by the template 'for every input the law returns true; each argument reads behind the call as it read before'; 0 by the template 'total and deterministic' (their statements: YtaohmmpfiehniaaTotals.lean).
  GIVEN WITH THE SEED: the statements are not yours to turn. If you find one false, say at which input.
  Laid BY PROGRAM, IN A SANDBOX (cutbox-rows.mjs): the forced cells as the released guide's own fill.sh prints them over the translation 4139533be97fb103… (all of the seat's roots in one cut). By AI agents, Wed Nov 11 2026. No macro, syntax, notation, axiom, sorry.
-/
import Derived.Test.YtaohmmpfiehniaaChecked
import GoSem.Claim
import GoSem.ClaimJoined
import GoSem.ClaimMapViews
import Derived.JoinedTies
import Derived.KernelRfl
namespace Go.Proofs.Ytaohmmpfiehniaa
/- THE CELL 'sum', in the pinned program and in every row, IS THE sha256 OF THE DUMP (.gsa) THAT YtaohmmpfiehniaaProg.lean LOADS. Nothing in Lean hashes anything: it is a label: what it is worth is what the hold of that sum in a sandbox is worth. -/
noncomputable def Try.pinned : Pinned := { name := "ytaohmmpfiehniaa", sum := "4139533be97fb103c10645d7ae92c0716e42e7fef6ad2e6967fbbbe802830152", checked := Try.checked }
namespace Rows
def none {H : Type} : Left H := { results := [], args := [] }

/-- 'laws.FnSnowNew': WHATEVER THE INPUT: true; the input reads as it did. -/
def fnSnowNewSpec : ChangeSpec := { name := "fnSnowNew", fn := fun _ => fun
  | [d] => { results := [.lit (.bool true)], args := [d] }
  | _ => none }
def fnSnowNewRow : OpenClaim := { program := "ytaohmmpfiehniaa", sum := "4139533be97fb103c10645d7ae92c0716e42e7fef6ad2e6967fbbbe802830152", func := "pub-thornbush/laws.FnSnowNew", spec := "fnSnowNew", unfollowed := true, recurses := true, apart := false }
def FnSnowNewSaid : Prop := fnSnowNewRow.holds Try.pinned (OpenSpec.ofChange fnSnowNewSpec)

/-- ITS FALSE NEIGHBOUR: 'it returns false'. Refute it at one input. -/
def fnSnowNewWrong : ChangeSpec := { name := "fnSnowNew", fn := fun _ => fun
  | [d] => { results := [.lit (.bool false)], args := [d] }
  | _ => none }
def FnSnowNewWrongFalsely : Prop := fnSnowNewRow.holds Try.pinned (OpenSpec.ofChange fnSnowNewWrong)

/-- 'laws.FnSnowStepped': WHATEVER THE INPUT: true; the input reads as it did. -/
def fnSnowSteppedSpec : ChangeSpec := { name := "fnSnowStepped", fn := fun _ => fun
  | [d1, d2] => { results := [.lit (.bool true)], args := [d1, d2] }
  | _ => none }
def fnSnowSteppedRow : OpenClaim := { program := "ytaohmmpfiehniaa", sum := "4139533be97fb103c10645d7ae92c0716e42e7fef6ad2e6967fbbbe802830152", func := "pub-thornbush/laws.FnSnowStepped", spec := "fnSnowStepped", unfollowed := true, recurses := true, apart := false }
def FnSnowSteppedSaid : Prop := fnSnowSteppedRow.holds Try.pinned (OpenSpec.ofChange fnSnowSteppedSpec)

/-- ITS FALSE NEIGHBOUR: 'it returns false'. Refute it at one input. -/
def fnSnowSteppedWrong : ChangeSpec := { name := "fnSnowStepped", fn := fun _ => fun
  | [d1, d2] => { results := [.lit (.bool false)], args := [d1, d2] }
  | _ => none }
def FnSnowSteppedWrongFalsely : Prop := fnSnowSteppedRow.holds Try.pinned (OpenSpec.ofChange fnSnowSteppedWrong)

/-- 'laws.FnSnowIn': WHATEVER THE INPUT: true; the input reads as it did. -/
def fnSnowInSpec : ChangeSpec := { name := "fnSnowIn", fn := fun _ => fun
  | [d1, d2, d3, d4] => { results := [.lit (.bool true)], args := [d1, d2, d3, d4] }
  | _ => none }
def fnSnowInRow : OpenClaim := { program := "ytaohmmpfiehniaa", sum := "4139533be97fb103c10645d7ae92c0716e42e7fef6ad2e6967fbbbe802830152", func := "pub-thornbush/laws.FnSnowIn", spec := "fnSnowIn", unfollowed := true, recurses := true, apart := false }
def FnSnowInSaid : Prop := fnSnowInRow.holds Try.pinned (OpenSpec.ofChange fnSnowInSpec)

/-- ITS FALSE NEIGHBOUR: 'it returns false'. Refute it at one input. -/
def fnSnowInWrong : ChangeSpec := { name := "fnSnowIn", fn := fun _ => fun
  | [d1, d2, d3, d4] => { results := [.lit (.bool false)], args := [d1, d2, d3, d4] }
  | _ => none }
def FnSnowInWrongFalsely : Prop := fnSnowInRow.holds Try.pinned (OpenSpec.ofChange fnSnowInWrong)

/-- 'laws.FnSnowFirst': WHATEVER THE INPUT: true; the input reads as it did. -/
def fnSnowFirstSpec : ChangeSpec := { name := "fnSnowFirst", fn := fun _ => fun
  | [d1, d2] => { results := [.lit (.bool true)], args := [d1, d2] }
  | _ => none }
def fnSnowFirstRow : OpenClaim := { program := "ytaohmmpfiehniaa", sum := "4139533be97fb103c10645d7ae92c0716e42e7fef6ad2e6967fbbbe802830152", func := "pub-thornbush/laws.FnSnowFirst", spec := "fnSnowFirst", unfollowed := true, recurses := true, apart := false }
def FnSnowFirstSaid : Prop := fnSnowFirstRow.holds Try.pinned (OpenSpec.ofChange fnSnowFirstSpec)

/-- ITS FALSE NEIGHBOUR: 'it returns false'. Refute it at one input. -/
def fnSnowFirstWrong : ChangeSpec := { name := "fnSnowFirst", fn := fun _ => fun
  | [d1, d2] => { results := [.lit (.bool false)], args := [d1, d2] }
  | _ => none }
def FnSnowFirstWrongFalsely : Prop := fnSnowFirstRow.holds Try.pinned (OpenSpec.ofChange fnSnowFirstWrong)

/-- 'laws.FnSnowRegions': WHATEVER THE INPUT: true; the input reads as it did. -/
def fnSnowRegionsSpec : ChangeSpec := { name := "fnSnowRegions", fn := fun _ => fun
  | [d1, d2] => { results := [.lit (.bool true)], args := [d1, d2] }
  | _ => none }
def fnSnowRegionsRow : OpenClaim := { program := "ytaohmmpfiehniaa", sum := "4139533be97fb103c10645d7ae92c0716e42e7fef6ad2e6967fbbbe802830152", func := "pub-thornbush/laws.FnSnowRegions", spec := "fnSnowRegions", unfollowed := true, recurses := true, apart := false }
def FnSnowRegionsSaid : Prop := fnSnowRegionsRow.holds Try.pinned (OpenSpec.ofChange fnSnowRegionsSpec)

/-- ITS FALSE NEIGHBOUR: 'it returns false'. Refute it at one input. -/
def fnSnowRegionsWrong : ChangeSpec := { name := "fnSnowRegions", fn := fun _ => fun
  | [d1, d2] => { results := [.lit (.bool false)], args := [d1, d2] }
  | _ => none }
def FnSnowRegionsWrongFalsely : Prop := fnSnowRegionsRow.holds Try.pinned (OpenSpec.ofChange fnSnowRegionsWrong)

/- THE SECOND FORM. 'bulk': how many values and letters a reading holds, each counted each time it is reached (what is shared counts as often as it is met; a slice's spare places count too). A statement '..UptoSaid' is the law's where the arguments, and the package variables that the reading takes, are together of bulk at most 1048576: NARROWER than '..Said'. Prove '..Said' where nothing that the law and all that it calls make is longer than what came in: it says more and counts as full. Else prove '..UptoSaid'. A law counts once. -/
mutual
def uptoBulk {H : Type} : DataW H → Nat
  | .lit (.string bytes) => bytes.length + 1
  | .lit _ => 1
  | .nil => 1
  | .ptr d => uptoBulk d + 1
  | .slice elems spare => uptoBulkAll elems + uptoBulkAll spare + 1
  | .agg parts => uptoBulkAll parts + 1
  | .iface _ d => uptoBulk d + 1
  | .map entries => uptoBulkEntries entries + 1
  | .held _ => 1
def uptoBulkAll {H : Type} : List (DataW H) → Nat
  | [] => 0
  | d :: r => uptoBulk d + uptoBulkAll r
def uptoBulkEntries {H : Type} : List (Lit × DataW H) → Nat
  | [] => 0
  | x :: r => uptoBulkEntry x + uptoBulkEntries r
def uptoBulkEntry {H : Type} : Lit × DataW H → Nat
  | (.string bytes, d) => bytes.length + uptoBulk d + 1
  | (_, d) => uptoBulk d + 1
 end
def uptoSmall : (H : Type) → List (DataW H) → Bool := fun _ ds => decide (uptoBulkAll ds ≤ 1048576)
def OpenSpec.upto (s : _root_.Go.ChangeSpec) : _root_.Go.OpenSpec := { _root_.Go.OpenSpec.ofChange s with cond := some uptoSmall }

/-- 'laws.FnSnowNew', WHERE WHAT IT READS IS OF BULK AT MOST 1048576: true; the input reads as it did. -/
def fnSnowNewUptoRow : OpenClaim := { program := "ytaohmmpfiehniaa", sum := "4139533be97fb103c10645d7ae92c0716e42e7fef6ad2e6967fbbbe802830152", func := "pub-thornbush/laws.FnSnowNew", spec := "fnSnowNew", unfollowed := true, recurses := true, apart := false, narrowed := true }
def FnSnowNewUptoSaid : Prop := fnSnowNewUptoRow.holds Try.pinned (OpenSpec.upto fnSnowNewSpec)

/-- 'laws.FnSnowStepped', WHERE WHAT IT READS IS OF BULK AT MOST 1048576: true; the input reads as it did. -/
def fnSnowSteppedUptoRow : OpenClaim := { program := "ytaohmmpfiehniaa", sum := "4139533be97fb103c10645d7ae92c0716e42e7fef6ad2e6967fbbbe802830152", func := "pub-thornbush/laws.FnSnowStepped", spec := "fnSnowStepped", unfollowed := true, recurses := true, apart := false, narrowed := true }
def FnSnowSteppedUptoSaid : Prop := fnSnowSteppedUptoRow.holds Try.pinned (OpenSpec.upto fnSnowSteppedSpec)

/-- 'laws.FnSnowIn', WHERE WHAT IT READS IS OF BULK AT MOST 1048576: true; the input reads as it did. -/
def fnSnowInUptoRow : OpenClaim := { program := "ytaohmmpfiehniaa", sum := "4139533be97fb103c10645d7ae92c0716e42e7fef6ad2e6967fbbbe802830152", func := "pub-thornbush/laws.FnSnowIn", spec := "fnSnowIn", unfollowed := true, recurses := true, apart := false, narrowed := true }
def FnSnowInUptoSaid : Prop := fnSnowInUptoRow.holds Try.pinned (OpenSpec.upto fnSnowInSpec)

/-- 'laws.FnSnowFirst', WHERE WHAT IT READS IS OF BULK AT MOST 1048576: true; the input reads as it did. -/
def fnSnowFirstUptoRow : OpenClaim := { program := "ytaohmmpfiehniaa", sum := "4139533be97fb103c10645d7ae92c0716e42e7fef6ad2e6967fbbbe802830152", func := "pub-thornbush/laws.FnSnowFirst", spec := "fnSnowFirst", unfollowed := true, recurses := true, apart := false, narrowed := true }
def FnSnowFirstUptoSaid : Prop := fnSnowFirstUptoRow.holds Try.pinned (OpenSpec.upto fnSnowFirstSpec)

/-- 'laws.FnSnowRegions', WHERE WHAT IT READS IS OF BULK AT MOST 1048576: true; the input reads as it did. -/
def fnSnowRegionsUptoRow : OpenClaim := { program := "ytaohmmpfiehniaa", sum := "4139533be97fb103c10645d7ae92c0716e42e7fef6ad2e6967fbbbe802830152", func := "pub-thornbush/laws.FnSnowRegions", spec := "fnSnowRegions", unfollowed := true, recurses := true, apart := false, narrowed := true }
def FnSnowRegionsUptoSaid : Prop := fnSnowRegionsUptoRow.holds Try.pinned (OpenSpec.upto fnSnowRegionsSpec)

end Rows
end Go.Proofs.Ytaohmmpfiehniaa
