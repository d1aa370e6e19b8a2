/- The walk of laws.FnFragments at the arguments as a row opens them. -/
import Derived.Test.YtbfelpgojgaeoaaDoorLawFrags
import Derived.Test.YtbfelpgojgaeoaaDoorOpenPairs
set_option linter.unusedVariables false
set_option linter.unusedSimpArgs false
namespace Go.Proofs.YtbfelpgojgaeoaaDoor
open Go.RowKit
theorem walk_frags (s : ByteArray) (x1 : Int) (b o cap n : Nat) (ad : Option Addr) (xs : List (Int × Int)) (_ : s.size ≤ maxLen) (h1 : 0 ≤ x1) (h1' : x1 ≤ 255) (hn : xs.length = n) (had : n = 0 ∨ ad = some ⟨b, o, none⟩) (hcap : n ≤ cap) (hi : AllI64 xs) (W : World) (hp : PairsAt W b o xs) (hT : Lib.Utf8Tabs 0 1 W) :
    Calls Tryd.prog 3 #[.string s, .int .u8 x1, .slice ad n cap] W fun e w' => e = .returned (.bool true) ∧ Below W.heap.size W w' := by
  obtain ⟨sz, rfl⟩ := Int.eq_ofNat_of_zero_le h1
  exact law_frags s sz (by omega) b o cap n ad xs hn had hcap hi W hT hp
end Go.Proofs.YtbfelpgojgaeoaaDoor
