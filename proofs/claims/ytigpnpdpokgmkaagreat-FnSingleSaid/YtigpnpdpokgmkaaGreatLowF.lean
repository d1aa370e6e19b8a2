/- The contracts of NewLowerCaseFilter, impl's (Filter).filter at the lower-case kind, and LowerCaseFilter.Filter at one token. -/
import Derived.Test.YtigpnpdpokgmkaaGreatStream
set_option linter.unusedVariables false
set_option linter.unusedSimpArgs false
namespace Go.Proofs.YtigpnpdpokgmkaaGreat
open Go Go.RowKit

theorem new_lower (w : World) : Calls Tryz.prog 48 #[] w fun x w' => ∃ p, x = .returned (.pointer (some ⟨p, 0, none⟩)) ∧ Below w.heap.size w w' := by
  go_enter Tryz.func48, Tryz.ntmps48
  go_wp2
  go_ret
  exact ⟨_, rfl, (Below.refl _ _).alloc (Nat.le_refl _) _⟩

set_option maxRecDepth 20000 in
set_option maxHeartbeats 2000000 in
theorem filter_kind (mn mx n : Int) (fl : Bool) (ws : Value) (sep fill : ByteArray) (w : World) : Calls Tryz.prog 29 #[.agg #[.int .i64 8, .int .i64 mn, .int .i64 mx, .int .i64 n, .bool fl, ws, .string sep, .string fill]] w fun x w' => ∃ p, x = .returned (.iface 95 (.pointer (some ⟨p, 0, none⟩))) ∧ Below w.heap.size w w' := by
  have hb : Below w.heap.size w (w.alloc (.cells #[.int .i64 8, .int .i64 mn, .int .i64 mx, .int .i64 n, .bool fl, ws, .string sep, .string fill] 30)) := (Below.refl _ _).alloc (Nat.le_refl _) _
  go_enter Tryz.func29, Tryz.ntmps29
  go_wp2_with fail
  generalize w.alloc (.cells #[.int .i64 8, .int .i64 mn, .int .i64 mx, .int .i64 n, .bool fl, ws, .string sep, .string fill] 30) = W at *
  refine (new_lower W).mono ?_
  rintro x w1 ⟨p, rfl, hb1⟩
  have HB := Lib.hid (hb.trans (hb1.mono hb.size))
  clear hb hb1
  go_wp2
  go_ret
  exact ⟨p, rfl, HB.out⟩

set_option maxHeartbeats 2000000 in
theorem lower_filter (q g gcap p c ccap : Nat) (w : World) (hg : w.cell? ⟨g, 0, none⟩ = some (.pointer (some ⟨p, 0, none⟩))) (ht : TokAt w p #[.int .i64 2, .int .i64 5, .slice (some ⟨c, 0, none⟩) 3 ccap, .int .i64 1, .int .i64 0, .bool false]) (hb : BytesB w c sAbC)
    (hf : ∀ i, i < 3 → w.frozen? ⟨c, i, none⟩ = false) (h3 : 3 ≤ ccap) (hm : ccap ≤ maxLen) (hcp : c ≠ p) (hgc : g ≠ c) (hgp : g ≠ p) :
    Calls Tryz.prog 113 #[.pointer (some ⟨q, 0, none⟩), .slice (some ⟨g, 0, none⟩) 1 gcap] w fun x w' => x = .returned (.slice (some ⟨g, 0, none⟩) 1 gcap) ∧ w' = ((w.setCell ⟨c, 0, none⟩ (.int .u8 97)).setCell ⟨c, 2, none⟩ (.int .u8 99)).setCell ⟨p, 2, none⟩ (.slice (some ⟨c, 0, none⟩) 3 ccap) := by
  unfold maxLen at hm
  have c2 : w.cell? ⟨p, 2, none⟩ = some (.slice (some ⟨c, 0, none⟩) 3 ccap) := ht.row 2 _ rfl
  have F := Lib.hid (to_lower c ccap h3 (by omega) w (hb 0 (by decide)) (hb 1 (by decide)) (hb 2 (by decide)) (hf 0 (by omega)) (hf 2 (by omega)))
  have e2 : ((w.setCell ⟨c, 0, none⟩ (.int .u8 97)).setCell ⟨c, 2, none⟩ (.int .u8 99)).cell? ⟨p, 2, none⟩ = some (.slice (some ⟨c, 0, none⟩) 3 ccap) := cell_other (Ne.symm hcp) (cell_other (Ne.symm hcp) c2)
  have f2 : ((w.setCell ⟨c, 0, none⟩ (.int .u8 97)).setCell ⟨c, 2, none⟩ (.int .u8 99)).frozen? ⟨p, 2, none⟩ = false := by rw [World.frozen?_setCell, World.frozen?_setCell]; exact ht.free 2
  clear hb ht hf
  go_enter Tryz.func113, Tryz.ntmps113
  go_wp2
  refine wp_loop_rounds 2 ?_
  simp only [rounds_succ]
  go_wp2_with fail
  refine F.out.mono ?_
  rintro x w1 ⟨rfl, rfl⟩
  generalize hw1 : (w.setCell ⟨c, 0, none⟩ (.int .u8 97)).setCell ⟨c, 2, none⟩ (.int .u8 99) = w1 at *
  have HW := Lib.hid hw1
  clear hw1 c2 hg
  go_wp2
  simp only [rounds_succ]
  go_wp2
  go_ret
  exact ⟨rfl, by rw [HW.out]⟩
end Go.Proofs.YtigpnpdpokgmkaaGreat
