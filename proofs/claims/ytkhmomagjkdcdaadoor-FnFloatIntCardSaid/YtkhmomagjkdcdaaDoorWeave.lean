/- The contracts of numeric.Interleave and Deinterleave: what they compute, as nested operations on bits, wherever the package's two tables hold their numbers. -/
import Derived.Test.YtkhmomagjkdcdaaDoorRows
import Derived.WalkKit
set_option linter.unusedVariables false
set_option linter.unusedSimpArgs false
namespace Go.Proofs.YtkhmomagjkdcdaaDoor
open Go.RowKit

/-- The two tables of package numeric hold their numbers. -/
structure Tabs (w : World) : Prop where
  s0 : w.cell? ⟨1, 0, none⟩ = some (.int .u64 1)
  s1 : w.cell? ⟨1, 1, none⟩ = some (.int .u64 2)
  s2 : w.cell? ⟨1, 2, none⟩ = some (.int .u64 4)
  s3 : w.cell? ⟨1, 3, none⟩ = some (.int .u64 8)
  s4 : w.cell? ⟨1, 4, none⟩ = some (.int .u64 16)
  m0 : w.cell? ⟨2, 0, none⟩ = some (.int .u64 6148914691236517205)
  m1 : w.cell? ⟨2, 1, none⟩ = some (.int .u64 3689348814741910323)
  m2 : w.cell? ⟨2, 2, none⟩ = some (.int .u64 1085102592571150095)
  m3 : w.cell? ⟨2, 3, none⟩ = some (.int .u64 71777214294589695)
  m4 : w.cell? ⟨2, 4, none⟩ = some (.int .u64 281470681808895)
  m5 : w.cell? ⟨2, 5, none⟩ = some (.int .u64 4294967295)

theorem Tabs.below {w w' : World} (h : Tabs w) (hb : Below w.heap.size w w') : Tabs w' := by
  have f : ∀ {a v}, w.cell? a = some v → w'.cell? a = some v := fun hc => (hb.cell (World.block_lt_of_cell? w _ hc)).trans hc
  exact ⟨f h.s0, f h.s1, f h.s2, f h.s3, f h.s4, f h.m0, f h.m1, f h.m2, f h.m3, f h.m4, f h.m5⟩

def stI (c m x : Int) : Int := bits .and .u64 (bits .or .u64 x (IntKind.u64.wrap (x * c))) m
def spI (x : Int) : Int := stI 2 6148914691236517205 (stI 4 3689348814741910323 (stI 16 1085102592571150095 (stI 256 71777214294589695 (stI 65536 281470681808895 x))))
def ilI (a b : Int) : Int := bits .or .u64 (IntKind.u64.wrap (spI b * 2)) (spI a)
def dtI (c m x : Int) : Int := bits .and .u64 (bits .xor .u64 x (x / c)) m
def deI (x : Int) : Int := dtI 65536 4294967295 (dtI 256 281470681808895 (dtI 16 71777214294589695 (dtI 4 1085102592571150095 (dtI 2 3689348814741910323 (bits .and .u64 x 6148914691236517205)))))

set_option maxHeartbeats 400000 in
theorem weave (a b : Int) (w : World) (ht : Tabs w) : Calls Tryd.prog 27 #[.int .u64 a, .int .u64 b] w fun e w' => e = .returned (.int .u64 (ilI a b)) ∧ w = w' := by
  obtain ⟨s0, s1, s2, s3, s4, m0, m1, m2, m3, m4, m5⟩ := ht
  go_enter Tryd.func27, Tryd.ntmps27
  go_wp2_with fail
  go_ret
  exact ⟨rfl, rfl⟩
theorem impl_weave (a b : Int) (w : World) (ht : Tabs w) : Calls Tryd.prog 13 #[.int .u64 a, .int .u64 b] w fun e w' => e = .returned (.int .u64 (ilI a b)) ∧ w = w' := by
  go_enter Tryd.func13, Tryd.ntmps13
  go_wp2_with fail
  refine (weave a b w ht).mono ?_
  rintro e w' ⟨rfl, rfl⟩
  go_wp2_with fail
  go_ret
  exact ⟨rfl, rfl⟩

set_option maxHeartbeats 400000 in
theorem unweave (a : Int) (w : World) (ht : Tabs w) : Calls Tryd.prog 28 #[.int .u64 a] w fun e w' => e = .returned (.int .u64 (deI a)) ∧ w = w' := by
  obtain ⟨s0, s1, s2, s3, s4, m0, m1, m2, m3, m4, m5⟩ := ht
  go_enter Tryd.func28, Tryd.ntmps28
  go_wp2_with fail
  go_ret
  exact ⟨rfl, rfl⟩
theorem impl_unweave (a : Int) (w : World) (ht : Tabs w) : Calls Tryd.prog 15 #[.int .u64 a] w fun e w' => e = .returned (.int .u64 (deI a)) ∧ w = w' := by
  go_enter Tryd.func15, Tryd.ntmps15
  go_wp2_with fail
  refine (unweave a w ht).mono ?_
  rintro e w' ⟨rfl, rfl⟩
  go_wp2_with fail
  go_ret
  exact ⟨rfl, rfl⟩
theorem il_awake : ilI 3 0 = 5 := by decide +kernel
end Go.Proofs.YtkhmomagjkdcdaaDoor
