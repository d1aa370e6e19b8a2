/- The contract of impl.safe: a closure that returns is called, the deferred closure recovers nothing, and safe answers true. -/
import Derived.Test.YtbfelpgojgaeoaaDoorRows
import Derived.WalkKit
import Derived.Defers
import Derived.Recover
import Derived.Laws.Pointers
import Derived.WalkSpells
import Derived.Lib.Hide
set_option linter.unusedVariables false
set_option linter.unusedSimpArgs false
namespace Go.Proofs.YtbfelpgojgaeoaaDoor
open Go.RowKit

theorem safe_catch (p : Addr) (x : Bool) (w : World) (hc : w.cell? p = some (.bool x)) (hz : w.frozen? p = false) :
    CallsD Tryd.prog 23 #[.pointer (some p)] .returning w fun e u' w' => e = .returned (.tuple #[]) ∧ u' = .returning ∧ w' = w.setCell p (.bool true) := by
  refine callsD_of_wpS Tryd.func23 rfl fun c₀ cs hu => ?_
  apply wpS_region
  simp [wpOpsS, go_sem, recoverD, hu, Tryd.ntmps23, hc, hz, bodyPostS, results, Tryd.results23]
  cases c₀
  simp_all

theorem safe_any (g : FuncId) (cap : Array Value) (w : World) (Q : World → Prop)
    (hcf : ∀ w, (callFunc g cap).run Tryd.prog w = .ok (.enter g cap) w)
    (hg : Calls Tryd.prog g cap (w.alloc (.cells #[.bool false] 4)) fun e w' => e = .returned (.tuple #[]) ∧ Q w' ∧ w'.heap[w.heap.size]? = some (.cells #[.bool false] 4 (0, 0))) :
    Calls Tryd.prog 11 #[.func (.func g) #[] cap] w fun e w' => e = .returned (.bool true) ∧ ∃ w2, Q w2 ∧ w2.heap[w.heap.size]? = some (.cells #[.bool false] 4 (0, 0)) ∧ w' = (w2.setCell ⟨w.heap.size, 0, none⟩ (.bool true)).setCell ⟨w.heap.size, 0, none⟩ (.bool true) := by
  have hmf : ∀ (fn : Fn) (first cap : Array Value) (w : World), (Instr.makeFunc fn first cap).run Tryd.prog w = .ok (.func fn first cap) w := fun _ _ _ _ => rfl
  have HG := Lib.hid hg
  clear hg
  go_enter_defers Tryd.func11, Tryd.ntmps11
  go_wp2_with fail
  refine HG.out.mono ?_
  rintro e w2 ⟨rfl, hq, hh⟩
  have hcell : w2.cell? ⟨w.heap.size, 0, none⟩ = some (.bool false) := by simp [World.cell?, hh]
  have hfr : w2.frozen? ⟨w.heap.size, 0, none⟩ = false := by simp [World.frozen?, hh]
  have HQ := Lib.hid hq
  clear hq
  have HH := Lib.hid hh
  clear hh HG
  go_wp2
  refine leaves_cons (f := 23) (args := #[.pointer (some ⟨w.heap.size, 0, none⟩)]) (by simp) (by simp [go_sem]) ?_
  refine (safe_catch ⟨w.heap.size, 0, none⟩ true _ (World.cell?_setCell_same _ _ _ hcell) (by rw [World.frozen?_setCell]; exact hfr)).mono ?_
  rintro e u' w'' ⟨rfl, rfl, rfl⟩
  have hc1 : (w2.setCell ⟨w.heap.size, 0, none⟩ (.bool true)).cell? ⟨w.heap.size, 0, none⟩ = some (.bool true) := World.cell?_setCell_same _ _ _ hcell
  have hc2 : ((w2.setCell ⟨w.heap.size, 0, none⟩ (.bool true)).setCell ⟨w.heap.size, 0, none⟩ (.bool true)).cell? ⟨w.heap.size, 0, none⟩ = some (.bool true) := World.cell?_setCell_same _ _ _ hc1
  simp [Leaves, settle, results, Tryd.results11, go_sem, hc2]
  exact ⟨w2, HQ.out, HH.out, rfl⟩
end Go.Proofs.YtbfelpgojgaeoaaDoor
