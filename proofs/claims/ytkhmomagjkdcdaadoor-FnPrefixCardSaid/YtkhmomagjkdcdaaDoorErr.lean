/- The contract of impl.PrefixNew for shifts beyond 63: no number. -/
import Derived.Test.YtkhmomagjkdcdaaDoorPre
set_option linter.unusedVariables false
set_option linter.unusedSimpArgs false
namespace Go.Proofs.YtkhmomagjkdcdaaDoor
open Go.RowKit

theorem errors_new (s : ByteArray) (w : World) : Calls Tryd.prog 39 #[.string s] w fun e w' => e = .returned (.iface 72 (.pointer (some ⟨w.heap.size, 0, none⟩))) ∧ w' = w.alloc (.cells #[.string s] 74) := by
  go_enter Tryd.func39, Tryd.ntmps39
  go_wp2
  go_ret
  exact ⟨rfl, rfl⟩

theorem prealloc_err (n s : Int) (hs : 63 < s) (w : World) : Calls Tryd.prog 26 #[.int .i64 n, .int .u64 s, .slice none 0 0] w fun e w' => ∃ b, e = .returned (.tuple #[.slice none 0 0, .slice none 0 0, .iface 72 (.pointer (some ⟨b, 0, none⟩))]) ∧ Below w.heap.size w w' := by
  have d : decide (63 < s) = true := by simp [hs]
  go_enter Tryd.func26, Tryd.ntmps26
  go_wp2_with fail
  refine (errors_new _ w).mono ?_
  rintro e w' ⟨rfl, rfl⟩
  go_wp2
  go_ret3
  exact ⟨_, rfl, (Below.refl _ _).alloc (Nat.le_refl _) _⟩

theorem new_err (n s : Int) (hs : 63 < s) (w : World) : Calls Tryd.prog 24 #[.int .i64 n, .int .u64 s] w fun e w' => ∃ b, e = .returned (.tuple #[.slice none 0 0, .iface 72 (.pointer (some ⟨b, 0, none⟩))]) ∧ Below w.heap.size w w' := by
  go_enter Tryd.func24, Tryd.ntmps24
  go_wp2_with fail
  refine (prealloc_err n s hs w).mono ?_
  rintro e w' ⟨b, rfl, hb⟩
  have HB := Lib.hid hb
  clear hb
  go_wp2
  go_ret2
  exact ⟨_, rfl, HB.out⟩

theorem impl_err (n s : Int) (hs : 63 < s) (w : World) : Calls Tryd.prog 9 #[.int .i64 n, .int .u64 s] w fun e w' => e = .returned (.tuple #[.slice none 0 0, .bool false]) ∧ Below w.heap.size w w' := by
  go_enter Tryd.func9, Tryd.ntmps9
  go_wp2_with fail
  refine (new_err n s hs w).mono ?_
  rintro e w' ⟨b, rfl, hb⟩
  have HB := Lib.hid hb
  clear hb
  go_wp2
  go_ret2
  exact ⟨rfl, HB.out⟩
end Go.Proofs.YtkhmomagjkdcdaaDoor
