/- Operations of a region that draws its order, one by one, by hand, in a frame of many slots: the slot's number told. -/
import Derived.Test.YtbfelpgojgaeoaaDoorLib
import Derived.Test.YtbfelpgojgaeoaaDoorRows
import Derived.Deep.RegionHeld3
import Derived.Deep.RegionWith
set_option linter.unusedVariables false
set_option linter.unusedSimpArgs false
namespace Go.Proofs.YtbfelpgojgaeoaaDoor
open Go Go.RowKit

section
variable {P : Program} {md : Region.Mode} {ops : Array Oper} {Q : Exit → Act → World → Prop} {S : World → Prop}
theorem takeH (d : Tmp) {i : Nat} {oi : Oper} {v : Value} {fuel : Nat} {listed : Array Bool} {a : Act} {w : World} (hi : ops[i]? = some oi) (hd : oi.dst = some d)
    (hs : Region.noSelect ops = true) (hf : Region.free md ops listed i = true) (hr : (Region.ready md ops listed).contains i = true)
    (hQ : ∀ c a w, Q (.panic c) (a.put oi.dst v) w → Q (.panic c) a w) (hy : YieldsIf P ops S oi v a) (hS : S w)
    (h : wpAnyH P md ops Q S fuel (listed.setIfInBounds i true) (Act.at_ a d v) w) : wpAnyH P md ops Q S (fuel + 1) listed a w :=
  wpAnyH_take hi hs hf hr hQ hy hS (by rw [put_at hd]; exact h)
theorem callH (d : Tmp) {fuel : Nat} {listed : Array Bool} {a : Act} {w : World} {i : Nat} {o : Oper} {f : FuncId} {args : Array Value}
    (hr : Region.ready md ops listed = [i]) (ho : ops[i]? = some o) (hd : o.dst = some d) (hw : Region.wanted o (yielded ops a.tmps) = true) (hex : (execOp a.eval o).run P w = .ok (.enter f args) w)
    (h : Calls P f args w fun e w' => ∃ v, e = .returned v ∧ S w' ∧ wpAnyH P md ops Q S fuel (listed.setIfInBounds i true) (Act.at_ a d v) w') : wpAnyH P md ops Q S (fuel + 1) listed a w :=
  wpAnyH_ready hr (by simp) (AllReadyH.cons ho (fun K hK => by
    rw [if_pos hw]; unfold Oper.wp; rw [hex, Oper.upon_enter]
    refine h.mono ?_
    rintro e w' ⟨v, rfl, hS, h2⟩
    refine hK.out _ _ hS (fun _ => ?_)
    rw [put_at hd]
    exact h2) AllReadyH.nil)
end
theorem yields_bool {P : Program} {a : Act} {o : Oper} {w : World} {x b : Bool} (h : (execOp a.eval o).run P w = .ok (.value (.bool x)) w) (e : x = b) : (execOp a.eval o).run P w = .ok (.value (.bool b)) w := e ▸ h
theorem yields_eq {P : Program} {a : Act} {o : Oper} {w : World} {x b : Value} (h : (execOp a.eval o).run P w = .ok (.value x) w) (e : x = b) : (execOp a.eval o).run P w = .ok (.value b) w := e ▸ h

section
variable {a : Act} {o : Oper} {w : World}
theorem exec_idx {x y : Operand} {b of n cap i : Nat} (ho : o.op = .indexAddr 22 x y) (hx : a.eval x = .slice (some ⟨b, of, none⟩) n cap) (hy : a.eval y = .int .i64 (i : Int)) (hi : i < n) :
    (execOp a.eval o).run Tryd.prog w = .ok (.value (.pointer (some ⟨b, of + i * 2, none⟩))) w := by
  unfold execOp
  simp only [ho, hx, hy, Option.map_some, Option.map_none]
  go_simp
theorem exec_arr0 {x : Operand} {b of : Nat} (ho : o.op = .indexAddr 26 x (.const (.int .i64 0))) (hx : a.eval x = .pointer (some ⟨b, of, none⟩)) :
    (execOp a.eval o).run Tryd.prog w = .ok (.value (.pointer (some ⟨b, of, none⟩))) w := by
  unfold execOp
  simp only [ho, hx]
  go_simp
theorem exec_arr1 {x : Operand} {b of : Nat} (ho : o.op = .indexAddr 26 x (.const (.int .i64 1))) (hx : a.eval x = .pointer (some ⟨b, of, none⟩)) :
    (execOp a.eval o).run Tryd.prog w = .ok (.value (.pointer (some ⟨b, of + 1, none⟩))) w := by
  unfold execOp
  simp only [ho, hx]
  go_simp
theorem exec_load3 {x : Operand} {ad : Addr} {A : Int} (ho : o.op = .load 3 x) (hx : a.eval x = .pointer (some ad)) (hc : w.cell? ad = some (.int .i64 A)) :
    (execOp a.eval o).run Tryd.prog w = .ok (.value (.int .i64 A)) w := by
  unfold execOp
  simp only [ho, hx]
  go_simp
theorem exec_cut0 {x y : Operand} {s : ByteArray} {A : Nat} (ho : o.op = .slice 9 x none (some y) none) (hx : a.eval x = .string s) (hy : a.eval y = .int .i64 (A : Int)) (hA : A ≤ s.size) :
    (execOp a.eval o).run Tryd.prog w = .ok (.value (.string (s.extract 0 A))) w := by
  unfold execOp
  simp only [ho, hx, hy, Option.map_some, Option.map_none]
  go_simp
theorem exec_cut {x y z : Operand} {s : ByteArray} {A B : Nat} (ho : o.op = .slice 9 x (some y) (some z) none) (hx : a.eval x = .string s) (hy : a.eval y = .int .i64 (A : Int)) (hz : a.eval z = .int .i64 (B : Int)) (hAB : A ≤ B) (hB : B ≤ s.size) :
    (execOp a.eval o).run Tryd.prog w = .ok (.value (.string (s.extract A B))) w := by
  unfold execOp
  simp only [ho, hx, hy, hz, Option.map_some, Option.map_none]
  go_simp
end
end Go.Proofs.YtbfelpgojgaeoaaDoor
