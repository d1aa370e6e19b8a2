/- The contracts of zztext.ToLower, utf8.RuneLen, utf8.EncodeRune and toLowerDeferredCopy at the numbers that filterAlive asks. -/
import Derived.Test.YtigpnpdpokgmkaaGreatSafe
import Derived.Test.YtigpnpdpokgmkaaGreatMem
import Derived.LoopN
import Derived.Deep.QuietTactic
import Derived.BigQuiet
import Derived.StillTailTactics
set_option linter.unusedVariables false
set_option linter.unusedSimpArgs false
namespace Go.Proofs.YtigpnpdpokgmkaaGreat
open Go Go.RowKit

theorem lower_at (c r : Int) (h : (c = 65 ∧ r = 97) ∨ (c = 98 ∧ r = 98) ∨ (c = 67 ∧ r = 99)) (w : World) : Calls Tryz.prog 67 #[.int .i32 c] w fun x w' => x = .returned (.int .i32 r) ∧ w = w' := by
  rcases h with ⟨rfl, rfl⟩ | ⟨rfl, rfl⟩ | ⟨rfl, rfl⟩
  all_goals
    go_enter Tryz.func67, Tryz.ntmps67
    go_wp2
    go_ret
    exact ⟨rfl, rfl⟩
theorem len_at (r : Int) (h : r = 97 ∨ r = 99) (w : World) : Calls Tryz.prog 99 #[.int .i32 r] w fun x w' => x = .returned (.int .i64 1) ∧ w = w' := by
  rcases h with rfl | rfl
  all_goals
    go_enter Tryz.func99, Tryz.ntmps99
    go_wp2
    go_ret
    exact ⟨rfl, rfl⟩
theorem enc_at (r : Int) (h : r = 97 ∨ r = 99) (b o n cap : Nat) (hn : 0 < n) (x0 : Value) (w : World) (h0 : w.cell? ⟨b, o, none⟩ = some x0) (hf : w.frozen? ⟨b, o, none⟩ = false) :
    Calls Tryz.prog 100 #[.slice (some ⟨b, o, none⟩) n cap, .int .i32 r] w fun x w' => x = .returned (.int .i64 1) ∧ w' = w.setCell ⟨b, o, none⟩ (.int .u8 r) := by
  rcases h with rfl | rfl
  all_goals
    go_enter Tryz.func100, Tryz.ntmps100
    go_wp2
    go_ret
    exact ⟨rfl, rfl⟩

set_option maxRecDepth 20000 in
set_option maxHeartbeats 4000000 in
theorem to_lower (b cap : Nat) (hc : 3 ≤ cap) (hm : cap ≤ 9223372036854775807) (w : World) (c0 : w.cell? ⟨b, 0, none⟩ = some (.int .u8 65)) (c1 : w.cell? ⟨b, 1, none⟩ = some (.int .u8 98)) (c2 : w.cell? ⟨b, 2, none⟩ = some (.int .u8 67)) (hf0 : w.frozen? ⟨b, 0, none⟩ = false) (hf2 : w.frozen? ⟨b, 2, none⟩ = false) :
    Calls Tryz.prog 114 #[.slice (some ⟨b, 0, none⟩) 3 cap] w fun x w' => x = .returned (.slice (some ⟨b, 0, none⟩) 3 cap) ∧ w' = (w.setCell ⟨b, 0, none⟩ (.int .u8 97)).setCell ⟨b, 2, none⟩ (.int .u8 99) := by
  have n0 : ¬ cap = 0 := by omega
  have n2 : ¬ cap = 2 := by omega
  have n2' : 2 ≤ cap := by omega
  go_enter Tryz.func114, Tryz.ntmps114
  go_wp2_with fail
  refine wp_loop_rounds 4 ?_
  simp only [rounds_succ]
  go_wp2_with fail
  refine (lower_at 65 97 (by simp) w).mono ?_
  rintro x w1 ⟨rfl, rfl⟩
  go_wp2_with fail
  refine (len_at 97 (by simp) w).mono ?_
  rintro x w1 ⟨rfl, rfl⟩
  go_wp2_with fail
  refine (enc_at 97 (by simp) b 0 3 cap (by omega) _ w c0 hf0).mono ?_
  rintro x w1 ⟨rfl, rfl⟩
  have d1 : (w.setCell ⟨b, 0, none⟩ (.int .u8 97)).cell? ⟨b, 1, none⟩ = some (.int .u8 98) := by rw [cell_off (by omega)]; exact c1
  have d2 : (w.setCell ⟨b, 0, none⟩ (.int .u8 97)).cell? ⟨b, 2, none⟩ = some (.int .u8 67) := by rw [cell_off (by omega)]; exact c2
  have df : (w.setCell ⟨b, 0, none⟩ (.int .u8 97)).frozen? ⟨b, 2, none⟩ = false := by rw [World.frozen?_setCell]; exact hf2
  generalize hw1 : w.setCell ⟨b, 0, none⟩ (.int .u8 97) = w1 at *
  clear c0 c1 c2
  go_wp2_with fail
  simp only [rounds_succ]
  go_wp2_with fail
  refine (lower_at 98 98 (by simp) w1).mono ?_
  rintro x w2 ⟨rfl, rfl⟩
  go_wp2_with fail
  simp only [rounds_succ]
  go_wp2_with fail
  refine (lower_at 67 99 (by simp) w1).mono ?_
  rintro x w2 ⟨rfl, rfl⟩
  go_wp2_with fail
  refine (len_at 99 (by simp) w1).mono ?_
  rintro x w2 ⟨rfl, rfl⟩
  go_wp2_with fail
  refine (enc_at 99 (by simp) b 2 1 (cap - 2) (by omega) _ w1 d2 df).mono ?_
  rintro x w2 ⟨rfl, rfl⟩
  generalize hw2 : w1.setCell ⟨b, 2, none⟩ (.int .u8 99) = w2 at *
  go_wp2_with fail
  simp only [rounds_succ]
  go_wp2
  go_ret
  exact ⟨rfl, by rw [← hw2, ← hw1]⟩
end Go.Proofs.YtigpnpdpokgmkaaGreat
