/-
  NARROWER THAN 'FOR EVERY INPUT', by the rows' own cells (each row's printed sentence says how): FnPrefixOrder: laid · FnPrefixFrom: laid · FnInterleave: laid · FnFloatInt: laid · FnPrefixAny: laid · FnPrefix: laid.
  DERIVED. THE GIVEN ROWS OF THIS SEAT. 6 by the template 'for every input the law returns true; each argument reads behind the call as it read before'; 0 by the template 'total and deterministic' (their statements: YtkhmomagjkdcdaaDoorTotals.lean).
  GIVEN WITH THE SEED: the statements are not yours to turn. If you find one false, say at which input.
  Laid BY PROGRAM, IN A SANDBOX (cutbox-rows.mjs): the forced cells as the released guide's own fill.sh prints them over the translation ce2e3df218d0ca0e… (all of the seat's roots in one cut). By AI agents, Wed Nov 11 2026. No macro, syntax, notation, axiom, sorry.
-/
import Derived.Test.YtkhmomagjkdcdaaDoorChecked
import GoSem.Claim
import GoSem.ClaimJoined
import GoSem.ClaimMapViews
import Derived.JoinedTies
import Derived.KernelRfl
namespace Go.Proofs.YtkhmomagjkdcdaaDoor
/- THE CELL 'sum', in the pinned program and in every row, IS THE sha256 OF THE DUMP (.gsa) THAT YtkhmomagjkdcdaaDoorProg.lean LOADS. Nothing in Lean hashes anything: it is a label: what it is worth is what the hold of that sum in a sandbox is worth. -/
noncomputable def Tryd.pinned : Pinned := { name := "ytkhmomagjkdcdaadoor", sum := "ce2e3df218d0ca0e889f9519e6f369727fdeaa5618f5f0c65b21c43297d0276a", checked := Tryd.checked }
namespace Rows
def none {H : Type} : Left H := { results := [], args := [] }

/- WHAT THE LISTED PACKAGE-LEVEL VARIABLES READ AS WHEN THE CALL BEGINS. Each datum BY PROGRAM (the guide's laid-datum.mjs) off the statement by which the dump's own 'gosem.cut.vars' lays the variable. In a bare row this is a premise. The card (YtkhmomagjkdcdaaDoorCards.lean) ties it to the program's text. -/
def laid_pub_thornbush_pub_bleve_numeric_interleaveMagic {H : Type} : DataW H := .agg [.lit (.int .u64 6148914691236517205), .lit (.int .u64 3689348814741910323), .lit (.int .u64 1085102592571150095), .lit (.int .u64 71777214294589695), .lit (.int .u64 281470681808895), .lit (.int .u64 4294967295), .lit (.int .u64 12297829382473034410)]
def laid_pub_thornbush_pub_bleve_numeric_interleaveShift {H : Type} : DataW H := .agg [.lit (.int .u64 1), .lit (.int .u64 2), .lit (.int .u64 4), .lit (.int .u64 8), .lit (.int .u64 16)]

/-- 'laws.FnPrefixOrder': WHATEVER THE INPUT: true; the input reads as it did. -/
def fnPrefixOrderSpec : ChangeSpec := { name := "fnPrefixOrder", fn := fun _ => fun
  | [d1, d2, d3] => { results := [.lit (.bool true)], args := [d1, d2, d3] }
  | _ => none }
def fnPrefixOrderRow : OpenClaim := { program := "ytkhmomagjkdcdaadoor", sum := "ce2e3df218d0ca0e889f9519e6f369727fdeaa5618f5f0c65b21c43297d0276a", func := "pub-thornbush/laws.FnPrefixOrder", spec := "fnPrefixOrder", unfollowed := true, recurses := true, named := ["pub-thornbush/pub/bleve/numeric.interleaveShift", "pub-thornbush/pub/bleve/numeric.interleaveMagic"], apart := false, laid := [("pub-thornbush/pub/bleve/numeric.interleaveMagic", laid_pub_thornbush_pub_bleve_numeric_interleaveMagic), ("pub-thornbush/pub/bleve/numeric.interleaveShift", laid_pub_thornbush_pub_bleve_numeric_interleaveShift)] }
def FnPrefixOrderSaid : Prop := fnPrefixOrderRow.holds Tryd.pinned (OpenSpec.ofChange fnPrefixOrderSpec)

/-- ITS FALSE NEIGHBOUR: 'it returns false'. Refute it at one input. -/
def fnPrefixOrderWrong : ChangeSpec := { name := "fnPrefixOrder", fn := fun _ => fun
  | [d1, d2, d3] => { results := [.lit (.bool false)], args := [d1, d2, d3] }
  | _ => none }
def FnPrefixOrderWrongFalsely : Prop := fnPrefixOrderRow.holds Tryd.pinned (OpenSpec.ofChange fnPrefixOrderWrong)

/-- 'laws.FnPrefixFrom': WHATEVER THE INPUT: true; the input reads as it did. -/
def fnPrefixFromSpec : ChangeSpec := { name := "fnPrefixFrom", fn := fun _ => fun
  | [d1, d2, d3] => { results := [.lit (.bool true)], args := [d1, d2, d3] }
  | _ => none }
def fnPrefixFromRow : OpenClaim := { program := "ytkhmomagjkdcdaadoor", sum := "ce2e3df218d0ca0e889f9519e6f369727fdeaa5618f5f0c65b21c43297d0276a", func := "pub-thornbush/laws.FnPrefixFrom", spec := "fnPrefixFrom", unfollowed := true, recurses := true, named := ["pub-thornbush/pub/bleve/numeric.interleaveShift", "pub-thornbush/pub/bleve/numeric.interleaveMagic"], apart := false, laid := [("pub-thornbush/pub/bleve/numeric.interleaveMagic", laid_pub_thornbush_pub_bleve_numeric_interleaveMagic), ("pub-thornbush/pub/bleve/numeric.interleaveShift", laid_pub_thornbush_pub_bleve_numeric_interleaveShift)] }
def FnPrefixFromSaid : Prop := fnPrefixFromRow.holds Tryd.pinned (OpenSpec.ofChange fnPrefixFromSpec)

/-- ITS FALSE NEIGHBOUR: 'it returns false'. Refute it at one input. -/
def fnPrefixFromWrong : ChangeSpec := { name := "fnPrefixFrom", fn := fun _ => fun
  | [d1, d2, d3] => { results := [.lit (.bool false)], args := [d1, d2, d3] }
  | _ => none }
def FnPrefixFromWrongFalsely : Prop := fnPrefixFromRow.holds Tryd.pinned (OpenSpec.ofChange fnPrefixFromWrong)

/-- 'laws.FnInterleave': WHATEVER THE INPUT: true; the input reads as it did. -/
def fnInterleaveSpec : ChangeSpec := { name := "fnInterleave", fn := fun _ => fun
  | [d1, d2] => { results := [.lit (.bool true)], args := [d1, d2] }
  | _ => none }
def fnInterleaveRow : OpenClaim := { program := "ytkhmomagjkdcdaadoor", sum := "ce2e3df218d0ca0e889f9519e6f369727fdeaa5618f5f0c65b21c43297d0276a", func := "pub-thornbush/laws.FnInterleave", spec := "fnInterleave", unfollowed := true, recurses := true, named := ["pub-thornbush/pub/bleve/numeric.interleaveShift", "pub-thornbush/pub/bleve/numeric.interleaveMagic"], apart := false, laid := [("pub-thornbush/pub/bleve/numeric.interleaveMagic", laid_pub_thornbush_pub_bleve_numeric_interleaveMagic), ("pub-thornbush/pub/bleve/numeric.interleaveShift", laid_pub_thornbush_pub_bleve_numeric_interleaveShift)] }
def FnInterleaveSaid : Prop := fnInterleaveRow.holds Tryd.pinned (OpenSpec.ofChange fnInterleaveSpec)

/-- ITS FALSE NEIGHBOUR: 'it returns false'. Refute it at one input. -/
def fnInterleaveWrong : ChangeSpec := { name := "fnInterleave", fn := fun _ => fun
  | [d1, d2] => { results := [.lit (.bool false)], args := [d1, d2] }
  | _ => none }
def FnInterleaveWrongFalsely : Prop := fnInterleaveRow.holds Tryd.pinned (OpenSpec.ofChange fnInterleaveWrong)

/-- 'laws.FnFloatInt': WHATEVER THE INPUT: true; the input reads as it did. -/
def fnFloatIntSpec : ChangeSpec := { name := "fnFloatInt", fn := fun _ => fun
  | [d1, d2] => { results := [.lit (.bool true)], args := [d1, d2] }
  | _ => none }
def fnFloatIntRow : OpenClaim := { program := "ytkhmomagjkdcdaadoor", sum := "ce2e3df218d0ca0e889f9519e6f369727fdeaa5618f5f0c65b21c43297d0276a", func := "pub-thornbush/laws.FnFloatInt", spec := "fnFloatInt", inPlace := ["math.Float64frombits", "math.Float64bits"], unfollowed := true, recurses := true, named := ["pub-thornbush/pub/bleve/numeric.interleaveShift", "pub-thornbush/pub/bleve/numeric.interleaveMagic"], apart := false, laid := [("pub-thornbush/pub/bleve/numeric.interleaveMagic", laid_pub_thornbush_pub_bleve_numeric_interleaveMagic), ("pub-thornbush/pub/bleve/numeric.interleaveShift", laid_pub_thornbush_pub_bleve_numeric_interleaveShift)] }
def FnFloatIntSaid : Prop := fnFloatIntRow.holds Tryd.pinned (OpenSpec.ofChange fnFloatIntSpec)

/-- ITS FALSE NEIGHBOUR: 'it returns false'. Refute it at one input. -/
def fnFloatIntWrong : ChangeSpec := { name := "fnFloatInt", fn := fun _ => fun
  | [d1, d2] => { results := [.lit (.bool false)], args := [d1, d2] }
  | _ => none }
def FnFloatIntWrongFalsely : Prop := fnFloatIntRow.holds Tryd.pinned (OpenSpec.ofChange fnFloatIntWrong)

/-- 'laws.FnPrefixAny': WHATEVER THE INPUT: true; the input reads as it did. -/
def fnPrefixAnySpec : ChangeSpec := { name := "fnPrefixAny", fn := fun _ => fun
  | [d] => { results := [.lit (.bool true)], args := [d] }
  | _ => none }
def fnPrefixAnyRow : OpenClaim := { program := "ytkhmomagjkdcdaadoor", sum := "ce2e3df218d0ca0e889f9519e6f369727fdeaa5618f5f0c65b21c43297d0276a", func := "pub-thornbush/laws.FnPrefixAny", spec := "fnPrefixAny", unfollowed := true, recurses := true, named := ["pub-thornbush/pub/bleve/numeric.interleaveShift", "pub-thornbush/pub/bleve/numeric.interleaveMagic"], apart := false, laid := [("pub-thornbush/pub/bleve/numeric.interleaveMagic", laid_pub_thornbush_pub_bleve_numeric_interleaveMagic), ("pub-thornbush/pub/bleve/numeric.interleaveShift", laid_pub_thornbush_pub_bleve_numeric_interleaveShift)] }
def FnPrefixAnySaid : Prop := fnPrefixAnyRow.holds Tryd.pinned (OpenSpec.ofChange fnPrefixAnySpec)

/-- ITS FALSE NEIGHBOUR: 'it returns false'. Refute it at one input. -/
def fnPrefixAnyWrong : ChangeSpec := { name := "fnPrefixAny", fn := fun _ => fun
  | [d] => { results := [.lit (.bool false)], args := [d] }
  | _ => none }
def FnPrefixAnyWrongFalsely : Prop := fnPrefixAnyRow.holds Tryd.pinned (OpenSpec.ofChange fnPrefixAnyWrong)

/-- 'laws.FnPrefix': WHATEVER THE INPUT: true; the input reads as it did. -/
def fnPrefixSpec : ChangeSpec := { name := "fnPrefix", fn := fun _ => fun
  | [d1, d2] => { results := [.lit (.bool true)], args := [d1, d2] }
  | _ => none }
def fnPrefixRow : OpenClaim := { program := "ytkhmomagjkdcdaadoor", sum := "ce2e3df218d0ca0e889f9519e6f369727fdeaa5618f5f0c65b21c43297d0276a", func := "pub-thornbush/laws.FnPrefix", spec := "fnPrefix", unfollowed := true, recurses := true, named := ["pub-thornbush/pub/bleve/numeric.interleaveShift", "pub-thornbush/pub/bleve/numeric.interleaveMagic"], apart := false, laid := [("pub-thornbush/pub/bleve/numeric.interleaveMagic", laid_pub_thornbush_pub_bleve_numeric_interleaveMagic), ("pub-thornbush/pub/bleve/numeric.interleaveShift", laid_pub_thornbush_pub_bleve_numeric_interleaveShift)] }
def FnPrefixSaid : Prop := fnPrefixRow.holds Tryd.pinned (OpenSpec.ofChange fnPrefixSpec)

/-- ITS FALSE NEIGHBOUR: 'it returns false'. Refute it at one input. -/
def fnPrefixWrong : ChangeSpec := { name := "fnPrefix", fn := fun _ => fun
  | [d1, d2] => { results := [.lit (.bool false)], args := [d1, d2] }
  | _ => none }
def FnPrefixWrongFalsely : Prop := fnPrefixRow.holds Tryd.pinned (OpenSpec.ofChange fnPrefixWrong)

/- THE SECOND FORM. 'bulk': how many values and letters a reading holds, each counted each time it is reached (what is shared counts as often as it is met; a slice's spare places count too). A statement '..UptoSaid' is the law's where the arguments, and the package variables that the reading takes, are together of bulk at most 1048576: NARROWER than '..Said'. Prove '..Said' where nothing that the law and all that it calls make is longer than what came in: it says more and counts as full. Else prove '..UptoSaid'. A law counts once. -/
mutual
def uptoBulk {H : Type} : DataW H → Nat
  | .lit (.string bytes) => bytes.length + 1
  | .lit _ => 1
  | .nil => 1
  | .ptr d => uptoBulk d + 1
  | .slice elems spare => uptoBulkAll elems + uptoBulkAll spare + 1
  | .agg parts => uptoBulkAll parts + 1
  | .iface _ d => uptoBulk d + 1
  | .map entries => uptoBulkEntries entries + 1
  | .held _ => 1
def uptoBulkAll {H : Type} : List (DataW H) → Nat
  | [] => 0
  | d :: r => uptoBulk d + uptoBulkAll r
def uptoBulkEntries {H : Type} : List (Lit × DataW H) → Nat
  | [] => 0
  | x :: r => uptoBulkEntry x + uptoBulkEntries r
def uptoBulkEntry {H : Type} : Lit × DataW H → Nat
  | (.string bytes, d) => bytes.length + uptoBulk d + 1
  | (_, d) => uptoBulk d + 1
 end
def uptoSmall : (H : Type) → List (DataW H) → Bool := fun _ ds => decide (uptoBulkAll ds ≤ 1048576)
def OpenSpec.upto (s : _root_.Go.ChangeSpec) : _root_.Go.OpenSpec := { _root_.Go.OpenSpec.ofChange s with cond := some uptoSmall }

/-- 'laws.FnPrefixOrder', WHERE WHAT IT READS IS OF BULK AT MOST 1048576: true; the input reads as it did. -/
def fnPrefixOrderUptoRow : OpenClaim := { program := "ytkhmomagjkdcdaadoor", sum := "ce2e3df218d0ca0e889f9519e6f369727fdeaa5618f5f0c65b21c43297d0276a", func := "pub-thornbush/laws.FnPrefixOrder", spec := "fnPrefixOrder", unfollowed := true, recurses := true, named := ["pub-thornbush/pub/bleve/numeric.interleaveShift", "pub-thornbush/pub/bleve/numeric.interleaveMagic"], apart := false, laid := [("pub-thornbush/pub/bleve/numeric.interleaveMagic", laid_pub_thornbush_pub_bleve_numeric_interleaveMagic), ("pub-thornbush/pub/bleve/numeric.interleaveShift", laid_pub_thornbush_pub_bleve_numeric_interleaveShift)], narrowed := true }
def FnPrefixOrderUptoSaid : Prop := fnPrefixOrderUptoRow.holds Tryd.pinned (OpenSpec.upto fnPrefixOrderSpec)

/-- 'laws.FnPrefixFrom', WHERE WHAT IT READS IS OF BULK AT MOST 1048576: true; the input reads as it did. -/
def fnPrefixFromUptoRow : OpenClaim := { program := "ytkhmomagjkdcdaadoor", sum := "ce2e3df218d0ca0e889f9519e6f369727fdeaa5618f5f0c65b21c43297d0276a", func := "pub-thornbush/laws.FnPrefixFrom", spec := "fnPrefixFrom", unfollowed := true, recurses := true, named := ["pub-thornbush/pub/bleve/numeric.interleaveShift", "pub-thornbush/pub/bleve/numeric.interleaveMagic"], apart := false, laid := [("pub-thornbush/pub/bleve/numeric.interleaveMagic", laid_pub_thornbush_pub_bleve_numeric_interleaveMagic), ("pub-thornbush/pub/bleve/numeric.interleaveShift", laid_pub_thornbush_pub_bleve_numeric_interleaveShift)], narrowed := true }
def FnPrefixFromUptoSaid : Prop := fnPrefixFromUptoRow.holds Tryd.pinned (OpenSpec.upto fnPrefixFromSpec)

/-- 'laws.FnInterleave', WHERE WHAT IT READS IS OF BULK AT MOST 1048576: true; the input reads as it did. -/
def fnInterleaveUptoRow : OpenClaim := { program := "ytkhmomagjkdcdaadoor", sum := "ce2e3df218d0ca0e889f9519e6f369727fdeaa5618f5f0c65b21c43297d0276a", func := "pub-thornbush/laws.FnInterleave", spec := "fnInterleave", unfollowed := true, recurses := true, named := ["pub-thornbush/pub/bleve/numeric.interleaveShift", "pub-thornbush/pub/bleve/numeric.interleaveMagic"], apart := false, laid := [("pub-thornbush/pub/bleve/numeric.interleaveMagic", laid_pub_thornbush_pub_bleve_numeric_interleaveMagic), ("pub-thornbush/pub/bleve/numeric.interleaveShift", laid_pub_thornbush_pub_bleve_numeric_interleaveShift)], narrowed := true }
def FnInterleaveUptoSaid : Prop := fnInterleaveUptoRow.holds Tryd.pinned (OpenSpec.upto fnInterleaveSpec)

/-- 'laws.FnFloatInt', WHERE WHAT IT READS IS OF BULK AT MOST 1048576: true; the input reads as it did. -/
def fnFloatIntUptoRow : OpenClaim := { program := "ytkhmomagjkdcdaadoor", sum := "ce2e3df218d0ca0e889f9519e6f369727fdeaa5618f5f0c65b21c43297d0276a", func := "pub-thornbush/laws.FnFloatInt", spec := "fnFloatInt", inPlace := ["math.Float64frombits", "math.Float64bits"], unfollowed := true, recurses := true, named := ["pub-thornbush/pub/bleve/numeric.interleaveShift", "pub-thornbush/pub/bleve/numeric.interleaveMagic"], apart := false, laid := [("pub-thornbush/pub/bleve/numeric.interleaveMagic", laid_pub_thornbush_pub_bleve_numeric_interleaveMagic), ("pub-thornbush/pub/bleve/numeric.interleaveShift", laid_pub_thornbush_pub_bleve_numeric_interleaveShift)], narrowed := true }
def FnFloatIntUptoSaid : Prop := fnFloatIntUptoRow.holds Tryd.pinned (OpenSpec.upto fnFloatIntSpec)

/-- 'laws.FnPrefixAny', WHERE WHAT IT READS IS OF BULK AT MOST 1048576: true; the input reads as it did. -/
def fnPrefixAnyUptoRow : OpenClaim := { program := "ytkhmomagjkdcdaadoor", sum := "ce2e3df218d0ca0e889f9519e6f369727fdeaa5618f5f0c65b21c43297d0276a", func := "pub-thornbush/laws.FnPrefixAny", spec := "fnPrefixAny", unfollowed := true, recurses := true, named := ["pub-thornbush/pub/bleve/numeric.interleaveShift", "pub-thornbush/pub/bleve/numeric.interleaveMagic"], apart := false, laid := [("pub-thornbush/pub/bleve/numeric.interleaveMagic", laid_pub_thornbush_pub_bleve_numeric_interleaveMagic), ("pub-thornbush/pub/bleve/numeric.interleaveShift", laid_pub_thornbush_pub_bleve_numeric_interleaveShift)], narrowed := true }
def FnPrefixAnyUptoSaid : Prop := fnPrefixAnyUptoRow.holds Tryd.pinned (OpenSpec.upto fnPrefixAnySpec)

/-- 'laws.FnPrefix', WHERE WHAT IT READS IS OF BULK AT MOST 1048576: true; the input reads as it did. -/
def fnPrefixUptoRow : OpenClaim := { program := "ytkhmomagjkdcdaadoor", sum := "ce2e3df218d0ca0e889f9519e6f369727fdeaa5618f5f0c65b21c43297d0276a", func := "pub-thornbush/laws.FnPrefix", spec := "fnPrefix", unfollowed := true, recurses := true, named := ["pub-thornbush/pub/bleve/numeric.interleaveShift", "pub-thornbush/pub/bleve/numeric.interleaveMagic"], apart := false, laid := [("pub-thornbush/pub/bleve/numeric.interleaveMagic", laid_pub_thornbush_pub_bleve_numeric_interleaveMagic), ("pub-thornbush/pub/bleve/numeric.interleaveShift", laid_pub_thornbush_pub_bleve_numeric_interleaveShift)], narrowed := true }
def FnPrefixUptoSaid : Prop := fnPrefixUptoRow.holds Tryd.pinned (OpenSpec.upto fnPrefixSpec)

end Rows
end Go.Proofs.YtkhmomagjkdcdaaDoor
