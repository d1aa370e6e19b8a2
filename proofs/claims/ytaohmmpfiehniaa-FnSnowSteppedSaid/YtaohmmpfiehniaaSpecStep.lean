/- The contracts of spec.Stepped: one for each kind of step (printed by gen_sp.py). -/
import Derived.Test.YtaohmmpfiehniaaAlive
import Derived.Test.YtaohmmpfiehniaaFirsts
import Derived.Deep.DeepCutAuto
set_option linter.unusedVariables false
set_option linter.unusedSimpArgs false
namespace Go.Proofs.Ytaohmmpfiehniaa
open Go Go.RowKit

theorem add_ok (a b : ByteArray) (h : a.size + b.size ≤ 9223372036854775807) (w : World) : (Op.stringOp .add a b).run Try.prog w = .ok (.string (a ++ b)) w := by
  have h2 : ¬ (((a.size + b.size : Nat) : Int) > IntKind.i64.max) := by simp [IntKind.max, IntKind.signed, IntKind.bits]; omega
  unfold Op.stringOp
  simp only [if_neg h2]
  rfl
def stepV' (kd N st : Int) (sv : Value) (u : ByteArray) (f : Bool) : Value := .agg #[.int .i64 kd, .int .i64 N, .int .i64 st, sv, .string u, .bool f]
def spBlocks (s : ByteArray) (r1 r2 rv kd N st : Int) (sv : Value) (u : ByteArray) (f : Bool) : List Obj := [.cells #[.string s, .int .i64 r1, .int .i64 r2, .int .i64 rv] 27, .cells #[.int .i64 kd, .int .i64 N, .int .i64 st, sv, .string u, .bool f] 32, .cells #[.string ⟨#[]⟩, .int .i64 0, .int .i64 0, .int .i64 0] 27]


set_option maxRecDepth 20000 in
set_option maxHeartbeats 8000000 in
theorem sp_0 (s : ByteArray) (r1 r2 rv : Int) (N st : Int) (SV : Value) (u : ByteArray) (f : Bool) (n : Nat) (t0 tq : ByteArray) (q1 q2 q3 : Int) (w : World) (hRN : (∀ w, Calls Try.prog 10 #[.string s] w fun x w' => (∃ b cap, x = .returned (.slice (some ⟨b, 0, none⟩) n cap)) ∧ Below w.heap.size w w'))
    (hG39 : (∀ w, Calls Try.prog 39 #[.string s, .int .i64 N] w fun x w' => x = .returned (.string t0) ∧ Below w.heap.size w w')) (hG38 : (∀ w, Calls Try.prog 38 #[.agg #[.string s, .int .i64 r1, .int .i64 r2, .int .i64 rv], .string t0] w fun x w' => x = .returned (.agg #[.string tq, .int .i64 q1, .int .i64 q2, .int .i64 q3]) ∧ Below w.heap.size w w')) : Calls Try.prog 17 #[snowV s r1 r2 rv, stepV' 0 N st SV u f] w fun x w' => x = .returned (.tuple #[snowV tq q1 q2 q3, .string ⟨#[]⟩, .bool false]) ∧ Below w.heap.size w w' := by
    have RN := Lib.hid hRN
    clear hRN
    have G39 := Lib.hid hG39
    clear hG39
    have G38 := Lib.hid hG38
    clear hG38
    unfold snowV stepV'
    go_enter Try.func17, Try.ntmps17
    go_wp2_with fail
    change Calls _ _ _ (allocs w (spBlocks s r1 r2 rv 0 N st SV u f)) _
    have r0 : RowAt (allocs w (spBlocks s r1 r2 rv 0 N st SV u f)) w.heap.size #[.string s, .int .i64 r1, .int .i64 r2, .int .i64 rv] := allocs_row (i := 0) rfl rfl
    have r1' : RowAt (allocs w (spBlocks s r1 r2 rv 0 N st SV u f)) (w.heap.size + 1) #[.int .i64 0, .int .i64 N, .int .i64 st, SV, .string u, .bool f] := allocs_row (i := 1) rfl rfl
    have r2' : BoxAt (allocs w (spBlocks s r1 r2 rv 0 N st SV u f)) (w.heap.size + 2) #[.string ⟨#[]⟩, .int .i64 0, .int .i64 0, .int .i64 0] := allocs_at (spBlocks s r1 r2 rv 0 N st SV u f) w 2 (by show 2 < 3; omega)
    have hb0 : Below w.heap.size w (allocs w (spBlocks s r1 r2 rv 0 N st SV u f)) := allocs_below _ w _ (Nat.le_refl _)
    generalize allocs w (spBlocks s r1 r2 rv 0 N st SV u f) = W0 at *
    obtain ⟨a0, ha0⟩ : ∃ a, w.heap.size = a := ⟨_, rfl⟩
    obtain ⟨a1, ha1⟩ : ∃ a, w.heap.size + 1 = a := ⟨_, rfl⟩
    obtain ⟨A, hA⟩ : ∃ a, w.heap.size + 2 = a := ⟨_, rfl⟩
    have hA' : w.heap.size + 1 + 1 = A := hA
    have nA0 : a0 ≠ A := by omega
    have nA1 : a1 ≠ A := by omega
    have hwA : w.heap.size ≤ A := by omega
    rw [ha1] at r1'
    rw [hA] at r2'
    rw [ha0] at r0
    rw [hA', ha1, ha0]
    clear ha0 ha1 hA hA'
    refine (RN.out W0).mono ?_
    rintro x w1 ⟨⟨rb, rcap, rfl⟩, hb1⟩
    have HB1 := Lib.hid (hb0.trans (hb1.mono hb0.size))
    have R0 := r0.below hb1
    have R1 := r1'.below hb1
    have R2 := r2'.below hb1
    have c10 : w1.cell? ⟨a1, 0, none⟩ = some (.int .i64 0) := R1 0 _ rfl
    have CA0 := Lib.hid (fun (w' : World) (h : Below w1.heap.size w1 w') => (show w'.cell? ⟨a0, 0, none⟩ = some (.string s) ∧ w'.cell? ⟨a0, 1, none⟩ = some (.int .i64 r1) ∧ w'.cell? ⟨a0, 2, none⟩ = some (.int .i64 r2) ∧ w'.cell? ⟨a0, 3, none⟩ = some (.int .i64 rv) from ⟨belowRow h (R0 0 _ rfl), belowRow h (R0 1 _ rfl), belowRow h (R0 2 _ rfl), belowRow h (R0 3 _ rfl)⟩))
    have CA1 := Lib.hid (fun (w' : World) (h : Below w1.heap.size w1 w') => (show w'.cell? ⟨a1, 1, none⟩ = some (.int .i64 N) ∧ w'.cell? ⟨a1, 2, none⟩ = some (.int .i64 st) ∧ w'.cell? ⟨a1, 3, none⟩ = some SV ∧ w'.cell? ⟨a1, 4, none⟩ = some (.string u) ∧ w'.cell? ⟨a1, 5, none⟩ = some (.bool f) from ⟨belowRow h (R1 1 _ rfl), belowRow h (R1 2 _ rfl), belowRow h (R1 3 _ rfl), belowRow h (R1 4 _ rfl), belowRow h (R1 5 _ rfl)⟩))
    have BX := Lib.hid (fun (w' : World) (h : Below w1.heap.size w1 w') => R2.below h)
    have b0 := Lib.hid (below_drewN (Below.refl w1.heap.size w1) 1)
    clear R0 R1 R2 r0 r1' r2' hb1

    go_wp2_with fail
    go_region_held3 (fun w' => (w'.cell? ⟨a0, 0, none⟩ = some (.string s) ∧ w'.cell? ⟨a0, 1, none⟩ = some (.int .i64 r1) ∧ w'.cell? ⟨a0, 2, none⟩ = some (.int .i64 r2) ∧ w'.cell? ⟨a0, 3, none⟩ = some (.int .i64 rv)) ∧ w'.cell? ⟨a1, 1, none⟩ = some (.int .i64 N))
      (first | with_reducible exact ⟨⟨cell_other nA0 (cell_other nA0 (cell_other nA0 (cell_other nA0 CB.1.1))), cell_other nA0 (cell_other nA0 (cell_other nA0 (cell_other nA0 CB.1.2.1))), cell_other nA0 (cell_other nA0 (cell_other nA0 (cell_other nA0 CB.1.2.2.1))), cell_other nA0 (cell_other nA0 (cell_other nA0 (cell_other nA0 CB.1.2.2.2)))⟩, cell_other nA1 (cell_other nA1 (cell_other nA1 (cell_other nA1 CB.2)))⟩ | with_reducible exact CB | with_reducible exact CA | exact ⟨CA0.out _ b0.out, (CA1.out _ b0.out).1⟩)
      (first
        | (go_at_call 39; refine (G39.out _).mono ?_; rintro x wA ⟨rfl, hhwA⟩; have bA := b0.out.trans (hhwA.mono b0.out.size); have CA := And.intro (CA0.out wA bA) (CA1.out wA bA).1)
        | (go_at_call 38; refine (G38.out _).mono ?_; rintro x wB ⟨rfl, hhwB⟩; have bB := bA.trans (hhwB.mono bA.size); have CB := And.intro (CA0.out wB bB) (CA1.out wB bB).1; have jB := BX.out wB bB; have k0 : wB.cell? ⟨A, 0, none⟩ = some (.string ⟨#[]⟩) := jB.row 0 _ rfl; have k1 : wB.cell? ⟨A, 1, none⟩ = some (.int .i64 0) := jB.row 1 _ rfl; have k2 : wB.cell? ⟨A, 2, none⟩ = some (.int .i64 0) := jB.row 2 _ rfl; have k3 : wB.cell? ⟨A, 3, none⟩ = some (.int .i64 0) := jB.row 3 _ rfl; have fz : ∀ i, wB.frozen? ⟨A, i, none⟩ = false := jB.free))
    have M1 := jB.set4 (.string tq) (.int .i64 q1) (.int .i64 q2) (.int .i64 q3)
    have M2 := set4_below (HB1.out.trans (bB.mono HB1.out.size)) hwA (.string tq) (.int .i64 q1) (.int .i64 q2) (.int .i64 q3)
    unfold Go.Proofs.Ytaohmmpfiehniaa.set4 at M1 M2
    have m0 := M1.row 0 _ rfl
    have m1 := M1.row 1 _ rfl
    have m2 := M1.row 2 _ rfl
    have m3 := M1.row 3 _ rfl
    have HM := Lib.hid M2
    clear M1 M2 jB bB k0 k1 k2 k3 fz
    go_wp2
    exact bodyPost_ret (v := .tuple #[snowV tq q1 q2 q3, .string ⟨#[]⟩, .bool false]) (by simp [results, Try.results17, go_sem, snowV, m0, m1, m2, m3]) rfl ⟨rfl, HM.out⟩


set_option maxRecDepth 20000 in
set_option maxHeartbeats 8000000 in
theorem sp_1_f (s : ByteArray) (r1 r2 rv : Int) (N st : Int) (SV : Value) (u : ByteArray) (f : Bool) (n : Nat) (t0 tq : ByteArray) (q1 q2 q3 : Int) (m : Nat) (hsz : t0.size + u.size ≤ 9223372036854775807) (w : World) (hRN : (∀ w, Calls Try.prog 10 #[.string s] w fun x w' => (∃ b cap, x = .returned (.slice (some ⟨b, 0, none⟩) n cap)) ∧ Below w.heap.size w w'))
    (hf : f = true) (bt ot k tcap : Nat) (t : ByteArray) (hSV : SV = .slice (some ⟨bt, ot, none⟩) k tcap) (hk0 : 0 < k) (hbt : w.cell? ⟨bt, ot, none⟩ = some (.string t)) (hG10 : (∀ w, Calls Try.prog 10 #[.string t] w fun x w' => (∃ b cap, x = .returned (.slice (some ⟨b, 0, none⟩) m cap)) ∧ Below w.heap.size w w')) (hG39 : (∀ w, Calls Try.prog 39 #[.string s, .int .i64 m] w fun x w' => x = .returned (.string t0) ∧ Below w.heap.size w w')) (hG38 : (∀ w, Calls Try.prog 38 #[.agg #[.string s, .int .i64 r1, .int .i64 r2, .int .i64 rv], .string (t0 ++ u)] w fun x w' => x = .returned (.agg #[.string tq, .int .i64 q1, .int .i64 q2, .int .i64 q3]) ∧ Below w.heap.size w w')) : Calls Try.prog 17 #[snowV s r1 r2 rv, stepV' 1 N st SV u f] w fun x w' => x = .returned (.tuple #[snowV tq q1 q2 q3, .string ⟨#[]⟩, .bool true]) ∧ Below w.heap.size w w' := by
    have RN := Lib.hid hRN
    clear hRN
    have G10 := Lib.hid hG10
    clear hG10
    have G39 := Lib.hid hG39
    clear hG39
    have G38 := Lib.hid hG38
    clear hG38
    have HSV := Lib.hid hSV
    clear hSV
    have HFF := Lib.hid hf
    clear hf
    have HT := Lib.hid hbt
    clear hbt
    have nAb : bt < w.heap.size := World.block_lt_of_cell? w _ HT.out
    unfold snowV stepV'
    go_enter Try.func17, Try.ntmps17
    go_wp2_with fail
    change Calls _ _ _ (allocs w (spBlocks s r1 r2 rv 1 N st SV u f)) _
    have r0 : RowAt (allocs w (spBlocks s r1 r2 rv 1 N st SV u f)) w.heap.size #[.string s, .int .i64 r1, .int .i64 r2, .int .i64 rv] := allocs_row (i := 0) rfl rfl
    have r1' : RowAt (allocs w (spBlocks s r1 r2 rv 1 N st SV u f)) (w.heap.size + 1) #[.int .i64 1, .int .i64 N, .int .i64 st, SV, .string u, .bool f] := allocs_row (i := 1) rfl rfl
    have r2' : BoxAt (allocs w (spBlocks s r1 r2 rv 1 N st SV u f)) (w.heap.size + 2) #[.string ⟨#[]⟩, .int .i64 0, .int .i64 0, .int .i64 0] := allocs_at (spBlocks s r1 r2 rv 1 N st SV u f) w 2 (by show 2 < 3; omega)
    have hb0 : Below w.heap.size w (allocs w (spBlocks s r1 r2 rv 1 N st SV u f)) := allocs_below _ w _ (Nat.le_refl _)
    generalize allocs w (spBlocks s r1 r2 rv 1 N st SV u f) = W0 at *
    obtain ⟨a0, ha0⟩ : ∃ a, w.heap.size = a := ⟨_, rfl⟩
    obtain ⟨a1, ha1⟩ : ∃ a, w.heap.size + 1 = a := ⟨_, rfl⟩
    obtain ⟨A, hA⟩ : ∃ a, w.heap.size + 2 = a := ⟨_, rfl⟩
    have hA' : w.heap.size + 1 + 1 = A := hA
    have nA0 : a0 ≠ A := by omega
    have nA1 : a1 ≠ A := by omega
    have hwA : w.heap.size ≤ A := by omega
    rw [ha1] at r1'
    rw [hA] at r2'
    rw [ha0] at r0
    rw [hA', ha1, ha0]
    clear ha0 ha1 hA hA'
    refine (RN.out W0).mono ?_
    rintro x w1 ⟨⟨rb, rcap, rfl⟩, hb1⟩
    have HB1 := Lib.hid (hb0.trans (hb1.mono hb0.size))
    have R0 := r0.below hb1
    have R1 := r1'.below hb1
    have R2 := r2'.below hb1
    have c10 : w1.cell? ⟨a1, 0, none⟩ = some (.int .i64 1) := R1 0 _ rfl
    have CA0 := Lib.hid (fun (w' : World) (h : Below w1.heap.size w1 w') => (show w'.cell? ⟨a0, 0, none⟩ = some (.string s) ∧ w'.cell? ⟨a0, 1, none⟩ = some (.int .i64 r1) ∧ w'.cell? ⟨a0, 2, none⟩ = some (.int .i64 r2) ∧ w'.cell? ⟨a0, 3, none⟩ = some (.int .i64 rv) from ⟨belowRow h (R0 0 _ rfl), belowRow h (R0 1 _ rfl), belowRow h (R0 2 _ rfl), belowRow h (R0 3 _ rfl)⟩))
    have CA1 := Lib.hid (fun (w' : World) (h : Below w1.heap.size w1 w') => (show w'.cell? ⟨a1, 1, none⟩ = some (.int .i64 N) ∧ w'.cell? ⟨a1, 2, none⟩ = some (.int .i64 st) ∧ w'.cell? ⟨a1, 3, none⟩ = some SV ∧ w'.cell? ⟨a1, 4, none⟩ = some (.string u) ∧ w'.cell? ⟨a1, 5, none⟩ = some (.bool f) from ⟨belowRow h (R1 1 _ rfl), belowRow h (R1 2 _ rfl), belowRow h (R1 3 _ rfl), belowRow h (R1 4 _ rfl), belowRow h (R1 5 _ rfl)⟩))
    have BX := Lib.hid (fun (w' : World) (h : Below w1.heap.size w1 w') => R2.below h)
    have b0 := Lib.hid (below_drewN (Below.refl w1.heap.size w1) 1)
    clear R0 R1 R2 r0 r1' r2' hb1

    have CT := Lib.hid (fun (w' : World) (h : Below w1.heap.size w1 w') => belowRow h (belowRow HB1.out HT.out))
    have nAt : bt ≠ A := by omega
    have hSV := HSV.out
    have hf := HFF.out
    clear HSV HFF
    subst hSV hf
    have z0 := Lib.hid (Below.refl w1.heap.size w1)
    have d5 : w1.cell? ⟨a1, 5, none⟩ = some (.bool true) := (CA1.out _ z0.out).2.2.2.2
    go_wp2_with fail
    go_quiet (fail)
    have b1 := Lib.hid (below_drewN (below_drewN z0.out nq) 1)
    have hadd := fun w => add_ok t0 u hsz w
    go_wp2_with fail
    go_region_held3 (fun w' => (w'.cell? ⟨a0, 0, none⟩ = some (.string s) ∧ w'.cell? ⟨a0, 1, none⟩ = some (.int .i64 r1) ∧ w'.cell? ⟨a0, 2, none⟩ = some (.int .i64 r2) ∧ w'.cell? ⟨a0, 3, none⟩ = some (.int .i64 rv)) ∧ w'.cell? ⟨a1, 3, none⟩ = some (.slice (some ⟨bt, ot, none⟩) k tcap) ∧ w'.cell? ⟨a1, 4, none⟩ = some (.string u) ∧ w'.cell? ⟨bt, ot, none⟩ = some (.string t))
      (first | with_reducible exact ⟨⟨cell_other nA0 (cell_other nA0 (cell_other nA0 (cell_other nA0 CB.1.1))), cell_other nA0 (cell_other nA0 (cell_other nA0 (cell_other nA0 CB.1.2.1))), cell_other nA0 (cell_other nA0 (cell_other nA0 (cell_other nA0 CB.1.2.2.1))), cell_other nA0 (cell_other nA0 (cell_other nA0 (cell_other nA0 CB.1.2.2.2)))⟩, cell_other nA1 (cell_other nA1 (cell_other nA1 (cell_other nA1 CB.2.1))), cell_other nA1 (cell_other nA1 (cell_other nA1 (cell_other nA1 CB.2.2.1))), cell_other nAt (cell_other nAt (cell_other nAt (cell_other nAt CB.2.2.2)))⟩ | with_reducible exact CB | with_reducible exact CA | with_reducible exact CL | exact ⟨CA0.out _ b1.out, (CA1.out _ b1.out).2.2.1, (CA1.out _ b1.out).2.2.2.1, CT.out _ b1.out⟩)
      (first
        | (go_at_call 10; refine (G10.out _).mono ?_; rintro x wL ⟨⟨rb2, rc2, rfl⟩, hhwL⟩; have bL := b1.out.trans (hhwL.mono b1.out.size); have CL := And.intro (CA0.out wL bL) (And.intro (CA1.out wL bL).2.2.1 (And.intro (CA1.out wL bL).2.2.2.1 (CT.out wL bL))))
        | (go_at_call 39; refine (G39.out _).mono ?_; rintro x wA ⟨rfl, hhwA⟩; have bA := bL.trans (hhwA.mono bL.size); have CA := And.intro (CA0.out wA bA) (And.intro (CA1.out wA bA).2.2.1 (And.intro (CA1.out wA bA).2.2.2.1 (CT.out wA bA))))
        | (go_at_call 38; refine (G38.out _).mono ?_; rintro x wB ⟨rfl, hhwB⟩; have bB := bA.trans (hhwB.mono bA.size); have CB := And.intro (CA0.out wB bB) (And.intro (CA1.out wB bB).2.2.1 (And.intro (CA1.out wB bB).2.2.2.1 (CT.out wB bB))); have jB := BX.out wB bB; have k0 : wB.cell? ⟨A, 0, none⟩ = some (.string ⟨#[]⟩) := jB.row 0 _ rfl; have k1 : wB.cell? ⟨A, 1, none⟩ = some (.int .i64 0) := jB.row 1 _ rfl; have k2 : wB.cell? ⟨A, 2, none⟩ = some (.int .i64 0) := jB.row 2 _ rfl; have k3 : wB.cell? ⟨A, 3, none⟩ = some (.int .i64 0) := jB.row 3 _ rfl; have fz : ∀ i, wB.frozen? ⟨A, i, none⟩ = false := jB.free))
    have M1 := jB.set4 (.string tq) (.int .i64 q1) (.int .i64 q2) (.int .i64 q3)
    have M2 := set4_below (HB1.out.trans (bB.mono HB1.out.size)) hwA (.string tq) (.int .i64 q1) (.int .i64 q2) (.int .i64 q3)
    unfold Go.Proofs.Ytaohmmpfiehniaa.set4 at M1 M2
    have m0 := M1.row 0 _ rfl
    have m1 := M1.row 1 _ rfl
    have m2 := M1.row 2 _ rfl
    have m3 := M1.row 3 _ rfl
    have HM := Lib.hid M2
    clear M1 M2 jB bB k0 k1 k2 k3 fz
    go_wp2
    exact bodyPost_ret (v := .tuple #[snowV tq q1 q2 q3, .string ⟨#[]⟩, .bool true]) (by simp [results, Try.results17, go_sem, snowV, m0, m1, m2, m3]) rfl ⟨rfl, HM.out⟩


set_option maxRecDepth 20000 in
set_option maxHeartbeats 8000000 in
theorem sp_1_e (s : ByteArray) (r1 r2 rv : Int) (N st : Int) (SV : Value) (u : ByteArray) (f : Bool) (n : Nat) (t0 tq : ByteArray) (q1 q2 q3 : Int) (m : Nat) (hsz : t0.size + u.size ≤ 9223372036854775807) (w : World) (hRN : (∀ w, Calls Try.prog 10 #[.string s] w fun x w' => (∃ b cap, x = .returned (.slice (some ⟨b, 0, none⟩) n cap)) ∧ Below w.heap.size w w'))
    (hf : f = false) (bt ot k tcap : Nat) (t : ByteArray) (hSV : SV = .slice (some ⟨bt, ot, none⟩) k tcap) (hk0 : 0 < k) (hbt : w.cell? ⟨bt, ot, none⟩ = some (.string t)) (hG10 : (∀ w, Calls Try.prog 10 #[.string t] w fun x w' => (∃ b cap, x = .returned (.slice (some ⟨b, 0, none⟩) m cap)) ∧ Below w.heap.size w w')) (hG39 : (∀ w, Calls Try.prog 39 #[.string s, .int .i64 m] w fun x w' => x = .returned (.string t0) ∧ Below w.heap.size w w')) (hG38 : (∀ w, Calls Try.prog 38 #[.agg #[.string s, .int .i64 r1, .int .i64 r2, .int .i64 rv], .string (t0 ++ u)] w fun x w' => x = .returned (.agg #[.string tq, .int .i64 q1, .int .i64 q2, .int .i64 q3]) ∧ Below w.heap.size w w')) (hG23 : (∀ w, Calls Try.prog 23 #[.string s, .string t] w fun x w' => x = .returned (.bool true) ∧ w = w')) : Calls Try.prog 17 #[snowV s r1 r2 rv, stepV' 1 N st SV u f] w fun x w' => x = .returned (.tuple #[snowV tq q1 q2 q3, .string ⟨#[]⟩, .bool true]) ∧ Below w.heap.size w w' := by
    have RN := Lib.hid hRN
    clear hRN
    have G10 := Lib.hid hG10
    clear hG10
    have G39 := Lib.hid hG39
    clear hG39
    have G38 := Lib.hid hG38
    clear hG38
    have HSV := Lib.hid hSV
    clear hSV
    have HFF := Lib.hid hf
    clear hf
    have G23 := Lib.hid hG23
    clear hG23
    have HT := Lib.hid hbt
    clear hbt
    have nAb : bt < w.heap.size := World.block_lt_of_cell? w _ HT.out
    unfold snowV stepV'
    go_enter Try.func17, Try.ntmps17
    go_wp2_with fail
    change Calls _ _ _ (allocs w (spBlocks s r1 r2 rv 1 N st SV u f)) _
    have r0 : RowAt (allocs w (spBlocks s r1 r2 rv 1 N st SV u f)) w.heap.size #[.string s, .int .i64 r1, .int .i64 r2, .int .i64 rv] := allocs_row (i := 0) rfl rfl
    have r1' : RowAt (allocs w (spBlocks s r1 r2 rv 1 N st SV u f)) (w.heap.size + 1) #[.int .i64 1, .int .i64 N, .int .i64 st, SV, .string u, .bool f] := allocs_row (i := 1) rfl rfl
    have r2' : BoxAt (allocs w (spBlocks s r1 r2 rv 1 N st SV u f)) (w.heap.size + 2) #[.string ⟨#[]⟩, .int .i64 0, .int .i64 0, .int .i64 0] := allocs_at (spBlocks s r1 r2 rv 1 N st SV u f) w 2 (by show 2 < 3; omega)
    have hb0 : Below w.heap.size w (allocs w (spBlocks s r1 r2 rv 1 N st SV u f)) := allocs_below _ w _ (Nat.le_refl _)
    generalize allocs w (spBlocks s r1 r2 rv 1 N st SV u f) = W0 at *
    obtain ⟨a0, ha0⟩ : ∃ a, w.heap.size = a := ⟨_, rfl⟩
    obtain ⟨a1, ha1⟩ : ∃ a, w.heap.size + 1 = a := ⟨_, rfl⟩
    obtain ⟨A, hA⟩ : ∃ a, w.heap.size + 2 = a := ⟨_, rfl⟩
    have hA' : w.heap.size + 1 + 1 = A := hA
    have nA0 : a0 ≠ A := by omega
    have nA1 : a1 ≠ A := by omega
    have hwA : w.heap.size ≤ A := by omega
    rw [ha1] at r1'
    rw [hA] at r2'
    rw [ha0] at r0
    rw [hA', ha1, ha0]
    clear ha0 ha1 hA hA'
    refine (RN.out W0).mono ?_
    rintro x w1 ⟨⟨rb, rcap, rfl⟩, hb1⟩
    have HB1 := Lib.hid (hb0.trans (hb1.mono hb0.size))
    have R0 := r0.below hb1
    have R1 := r1'.below hb1
    have R2 := r2'.below hb1
    have c10 : w1.cell? ⟨a1, 0, none⟩ = some (.int .i64 1) := R1 0 _ rfl
    have CA0 := Lib.hid (fun (w' : World) (h : Below w1.heap.size w1 w') => (show w'.cell? ⟨a0, 0, none⟩ = some (.string s) ∧ w'.cell? ⟨a0, 1, none⟩ = some (.int .i64 r1) ∧ w'.cell? ⟨a0, 2, none⟩ = some (.int .i64 r2) ∧ w'.cell? ⟨a0, 3, none⟩ = some (.int .i64 rv) from ⟨belowRow h (R0 0 _ rfl), belowRow h (R0 1 _ rfl), belowRow h (R0 2 _ rfl), belowRow h (R0 3 _ rfl)⟩))
    have CA1 := Lib.hid (fun (w' : World) (h : Below w1.heap.size w1 w') => (show w'.cell? ⟨a1, 1, none⟩ = some (.int .i64 N) ∧ w'.cell? ⟨a1, 2, none⟩ = some (.int .i64 st) ∧ w'.cell? ⟨a1, 3, none⟩ = some SV ∧ w'.cell? ⟨a1, 4, none⟩ = some (.string u) ∧ w'.cell? ⟨a1, 5, none⟩ = some (.bool f) from ⟨belowRow h (R1 1 _ rfl), belowRow h (R1 2 _ rfl), belowRow h (R1 3 _ rfl), belowRow h (R1 4 _ rfl), belowRow h (R1 5 _ rfl)⟩))
    have BX := Lib.hid (fun (w' : World) (h : Below w1.heap.size w1 w') => R2.below h)
    have b0 := Lib.hid (below_drewN (Below.refl w1.heap.size w1) 1)
    clear R0 R1 R2 r0 r1' r2' hb1

    have CT := Lib.hid (fun (w' : World) (h : Below w1.heap.size w1 w') => belowRow h (belowRow HB1.out HT.out))
    have nAt : bt ≠ A := by omega
    have hSV := HSV.out
    have hf := HFF.out
    clear HSV HFF
    subst hSV hf
    go_wp2_with fail
    go_region_held3 (fun w' => w'.cell? ⟨a1, 3, none⟩ = some (.slice (some ⟨bt, ot, none⟩) k tcap) ∧ w'.cell? ⟨a1, 5, none⟩ = some (.bool false) ∧ w'.cell? ⟨bt, ot, none⟩ = some (.string t) ∧ w'.cell? ⟨a0, 0, none⟩ = some (.string s))
      (exact ⟨(CA1.out _ b0.out).2.2.1, (CA1.out _ b0.out).2.2.2.2, CT.out _ b0.out, (CA0.out _ b0.out).1⟩)
      (first
        | (go_at_call 23; refine (G23.out _).mono ?_; rintro x wZ ⟨rfl, rfl⟩))
    have b1 := Lib.hid (below_drewN b0.out 1)
    have hadd := fun w => add_ok t0 u hsz w
    go_wp2_with fail
    go_region_held3 (fun w' => (w'.cell? ⟨a0, 0, none⟩ = some (.string s) ∧ w'.cell? ⟨a0, 1, none⟩ = some (.int .i64 r1) ∧ w'.cell? ⟨a0, 2, none⟩ = some (.int .i64 r2) ∧ w'.cell? ⟨a0, 3, none⟩ = some (.int .i64 rv)) ∧ w'.cell? ⟨a1, 3, none⟩ = some (.slice (some ⟨bt, ot, none⟩) k tcap) ∧ w'.cell? ⟨a1, 4, none⟩ = some (.string u) ∧ w'.cell? ⟨bt, ot, none⟩ = some (.string t))
      (first | with_reducible exact ⟨⟨cell_other nA0 (cell_other nA0 (cell_other nA0 (cell_other nA0 CB.1.1))), cell_other nA0 (cell_other nA0 (cell_other nA0 (cell_other nA0 CB.1.2.1))), cell_other nA0 (cell_other nA0 (cell_other nA0 (cell_other nA0 CB.1.2.2.1))), cell_other nA0 (cell_other nA0 (cell_other nA0 (cell_other nA0 CB.1.2.2.2)))⟩, cell_other nA1 (cell_other nA1 (cell_other nA1 (cell_other nA1 CB.2.1))), cell_other nA1 (cell_other nA1 (cell_other nA1 (cell_other nA1 CB.2.2.1))), cell_other nAt (cell_other nAt (cell_other nAt (cell_other nAt CB.2.2.2)))⟩ | with_reducible exact CB | with_reducible exact CA | with_reducible exact CL | exact ⟨CA0.out _ b1.out, (CA1.out _ b1.out).2.2.1, (CA1.out _ b1.out).2.2.2.1, CT.out _ b1.out⟩)
      (first
        | (go_at_call 10; refine (G10.out _).mono ?_; rintro x wL ⟨⟨rb2, rc2, rfl⟩, hhwL⟩; have bL := b1.out.trans (hhwL.mono b1.out.size); have CL := And.intro (CA0.out wL bL) (And.intro (CA1.out wL bL).2.2.1 (And.intro (CA1.out wL bL).2.2.2.1 (CT.out wL bL))))
        | (go_at_call 39; refine (G39.out _).mono ?_; rintro x wA ⟨rfl, hhwA⟩; have bA := bL.trans (hhwA.mono bL.size); have CA := And.intro (CA0.out wA bA) (And.intro (CA1.out wA bA).2.2.1 (And.intro (CA1.out wA bA).2.2.2.1 (CT.out wA bA))))
        | (go_at_call 38; refine (G38.out _).mono ?_; rintro x wB ⟨rfl, hhwB⟩; have bB := bA.trans (hhwB.mono bA.size); have CB := And.intro (CA0.out wB bB) (And.intro (CA1.out wB bB).2.2.1 (And.intro (CA1.out wB bB).2.2.2.1 (CT.out wB bB))); have jB := BX.out wB bB; have k0 : wB.cell? ⟨A, 0, none⟩ = some (.string ⟨#[]⟩) := jB.row 0 _ rfl; have k1 : wB.cell? ⟨A, 1, none⟩ = some (.int .i64 0) := jB.row 1 _ rfl; have k2 : wB.cell? ⟨A, 2, none⟩ = some (.int .i64 0) := jB.row 2 _ rfl; have k3 : wB.cell? ⟨A, 3, none⟩ = some (.int .i64 0) := jB.row 3 _ rfl; have fz : ∀ i, wB.frozen? ⟨A, i, none⟩ = false := jB.free))
    have M1 := jB.set4 (.string tq) (.int .i64 q1) (.int .i64 q2) (.int .i64 q3)
    have M2 := set4_below (HB1.out.trans (bB.mono HB1.out.size)) hwA (.string tq) (.int .i64 q1) (.int .i64 q2) (.int .i64 q3)
    unfold Go.Proofs.Ytaohmmpfiehniaa.set4 at M1 M2
    have m0 := M1.row 0 _ rfl
    have m1 := M1.row 1 _ rfl
    have m2 := M1.row 2 _ rfl
    have m3 := M1.row 3 _ rfl
    have HM := Lib.hid M2
    clear M1 M2 jB bB k0 k1 k2 k3 fz
    go_wp2
    exact bodyPost_ret (v := .tuple #[snowV tq q1 q2 q3, .string ⟨#[]⟩, .bool true]) (by simp [results, Try.results17, go_sem, snowV, m0, m1, m2, m3]) rfl ⟨rfl, HM.out⟩


set_option maxRecDepth 20000 in
set_option maxHeartbeats 8000000 in
theorem sp_2_f (s : ByteArray) (r1 r2 rv : Int) (N st : Int) (SV : Value) (u : ByteArray) (f : Bool) (n : Nat) (t0 tq : ByteArray) (q1 q2 q3 : Int) (m : Nat) (hsz : t0.size + u.size ≤ 9223372036854775807) (w : World) (hRN : (∀ w, Calls Try.prog 10 #[.string s] w fun x w' => (∃ b cap, x = .returned (.slice (some ⟨b, 0, none⟩) n cap)) ∧ Below w.heap.size w w'))
    (hf : f = true) (bt ot k tcap : Nat) (t : ByteArray) (hSV : SV = .slice (some ⟨bt, ot, none⟩) k tcap) (hk0 : 0 < k) (hbt : w.cell? ⟨bt, ot, none⟩ = some (.string t)) (hG10 : (∀ w, Calls Try.prog 10 #[.string t] w fun x w' => (∃ b cap, x = .returned (.slice (some ⟨b, 0, none⟩) m cap)) ∧ Below w.heap.size w w')) (hG39 : (∀ w, Calls Try.prog 39 #[.string s, .int .i64 m] w fun x w' => x = .returned (.string t0) ∧ Below w.heap.size w w')) (hG38 : (∀ w, Calls Try.prog 38 #[.agg #[.string s, .int .i64 r1, .int .i64 r2, .int .i64 rv], .string (t0 ++ u)] w fun x w' => x = .returned (.agg #[.string tq, .int .i64 q1, .int .i64 q2, .int .i64 q3]) ∧ Below w.heap.size w w')) : Calls Try.prog 17 #[snowV s r1 r2 rv, stepV' 2 N st SV u f] w fun x w' => x = .returned (.tuple #[snowV tq q1 q2 q3, .string ⟨#[]⟩, .bool true]) ∧ Below w.heap.size w w' := by
    have RN := Lib.hid hRN
    clear hRN
    have G10 := Lib.hid hG10
    clear hG10
    have G39 := Lib.hid hG39
    clear hG39
    have G38 := Lib.hid hG38
    clear hG38
    have HSV := Lib.hid hSV
    clear hSV
    have HFF := Lib.hid hf
    clear hf
    have HT := Lib.hid hbt
    clear hbt
    have nAb : bt < w.heap.size := World.block_lt_of_cell? w _ HT.out
    unfold snowV stepV'
    go_enter Try.func17, Try.ntmps17
    go_wp2_with fail
    change Calls _ _ _ (allocs w (spBlocks s r1 r2 rv 2 N st SV u f)) _
    have r0 : RowAt (allocs w (spBlocks s r1 r2 rv 2 N st SV u f)) w.heap.size #[.string s, .int .i64 r1, .int .i64 r2, .int .i64 rv] := allocs_row (i := 0) rfl rfl
    have r1' : RowAt (allocs w (spBlocks s r1 r2 rv 2 N st SV u f)) (w.heap.size + 1) #[.int .i64 2, .int .i64 N, .int .i64 st, SV, .string u, .bool f] := allocs_row (i := 1) rfl rfl
    have r2' : BoxAt (allocs w (spBlocks s r1 r2 rv 2 N st SV u f)) (w.heap.size + 2) #[.string ⟨#[]⟩, .int .i64 0, .int .i64 0, .int .i64 0] := allocs_at (spBlocks s r1 r2 rv 2 N st SV u f) w 2 (by show 2 < 3; omega)
    have hb0 : Below w.heap.size w (allocs w (spBlocks s r1 r2 rv 2 N st SV u f)) := allocs_below _ w _ (Nat.le_refl _)
    generalize allocs w (spBlocks s r1 r2 rv 2 N st SV u f) = W0 at *
    obtain ⟨a0, ha0⟩ : ∃ a, w.heap.size = a := ⟨_, rfl⟩
    obtain ⟨a1, ha1⟩ : ∃ a, w.heap.size + 1 = a := ⟨_, rfl⟩
    obtain ⟨A, hA⟩ : ∃ a, w.heap.size + 2 = a := ⟨_, rfl⟩
    have hA' : w.heap.size + 1 + 1 = A := hA
    have nA0 : a0 ≠ A := by omega
    have nA1 : a1 ≠ A := by omega
    have hwA : w.heap.size ≤ A := by omega
    rw [ha1] at r1'
    rw [hA] at r2'
    rw [ha0] at r0
    rw [hA', ha1, ha0]
    clear ha0 ha1 hA hA'
    refine (RN.out W0).mono ?_
    rintro x w1 ⟨⟨rb, rcap, rfl⟩, hb1⟩
    have HB1 := Lib.hid (hb0.trans (hb1.mono hb0.size))
    have R0 := r0.below hb1
    have R1 := r1'.below hb1
    have R2 := r2'.below hb1
    have c10 : w1.cell? ⟨a1, 0, none⟩ = some (.int .i64 2) := R1 0 _ rfl
    have CA0 := Lib.hid (fun (w' : World) (h : Below w1.heap.size w1 w') => (show w'.cell? ⟨a0, 0, none⟩ = some (.string s) ∧ w'.cell? ⟨a0, 1, none⟩ = some (.int .i64 r1) ∧ w'.cell? ⟨a0, 2, none⟩ = some (.int .i64 r2) ∧ w'.cell? ⟨a0, 3, none⟩ = some (.int .i64 rv) from ⟨belowRow h (R0 0 _ rfl), belowRow h (R0 1 _ rfl), belowRow h (R0 2 _ rfl), belowRow h (R0 3 _ rfl)⟩))
    have CA1 := Lib.hid (fun (w' : World) (h : Below w1.heap.size w1 w') => (show w'.cell? ⟨a1, 1, none⟩ = some (.int .i64 N) ∧ w'.cell? ⟨a1, 2, none⟩ = some (.int .i64 st) ∧ w'.cell? ⟨a1, 3, none⟩ = some SV ∧ w'.cell? ⟨a1, 4, none⟩ = some (.string u) ∧ w'.cell? ⟨a1, 5, none⟩ = some (.bool f) from ⟨belowRow h (R1 1 _ rfl), belowRow h (R1 2 _ rfl), belowRow h (R1 3 _ rfl), belowRow h (R1 4 _ rfl), belowRow h (R1 5 _ rfl)⟩))
    have BX := Lib.hid (fun (w' : World) (h : Below w1.heap.size w1 w') => R2.below h)
    have b0 := Lib.hid (below_drewN (Below.refl w1.heap.size w1) 1)
    clear R0 R1 R2 r0 r1' r2' hb1

    have CT := Lib.hid (fun (w' : World) (h : Below w1.heap.size w1 w') => belowRow h (belowRow HB1.out HT.out))
    have nAt : bt ≠ A := by omega
    have hSV := HSV.out
    have hf := HFF.out
    clear HSV HFF
    subst hSV hf
    have z0 := Lib.hid (Below.refl w1.heap.size w1)
    have d5 : w1.cell? ⟨a1, 5, none⟩ = some (.bool true) := (CA1.out _ z0.out).2.2.2.2
    go_wp2_with fail
    go_quiet (fail)
    have b1 := Lib.hid (below_drewN (below_drewN z0.out nq) 1)
    have hadd := fun w => add_ok t0 u hsz w
    go_wp2_with fail
    go_region_held3 (fun w' => (w'.cell? ⟨a0, 0, none⟩ = some (.string s) ∧ w'.cell? ⟨a0, 1, none⟩ = some (.int .i64 r1) ∧ w'.cell? ⟨a0, 2, none⟩ = some (.int .i64 r2) ∧ w'.cell? ⟨a0, 3, none⟩ = some (.int .i64 rv)) ∧ w'.cell? ⟨a1, 3, none⟩ = some (.slice (some ⟨bt, ot, none⟩) k tcap) ∧ w'.cell? ⟨a1, 4, none⟩ = some (.string u) ∧ w'.cell? ⟨bt, ot, none⟩ = some (.string t))
      (first | with_reducible exact ⟨⟨cell_other nA0 (cell_other nA0 (cell_other nA0 (cell_other nA0 CB.1.1))), cell_other nA0 (cell_other nA0 (cell_other nA0 (cell_other nA0 CB.1.2.1))), cell_other nA0 (cell_other nA0 (cell_other nA0 (cell_other nA0 CB.1.2.2.1))), cell_other nA0 (cell_other nA0 (cell_other nA0 (cell_other nA0 CB.1.2.2.2)))⟩, cell_other nA1 (cell_other nA1 (cell_other nA1 (cell_other nA1 CB.2.1))), cell_other nA1 (cell_other nA1 (cell_other nA1 (cell_other nA1 CB.2.2.1))), cell_other nAt (cell_other nAt (cell_other nAt (cell_other nAt CB.2.2.2)))⟩ | with_reducible exact CB | with_reducible exact CA | with_reducible exact CL | exact ⟨CA0.out _ b1.out, (CA1.out _ b1.out).2.2.1, (CA1.out _ b1.out).2.2.2.1, CT.out _ b1.out⟩)
      (first
        | (go_at_call 10; refine (G10.out _).mono ?_; rintro x wL ⟨⟨rb2, rc2, rfl⟩, hhwL⟩; have bL := b1.out.trans (hhwL.mono b1.out.size); have CL := And.intro (CA0.out wL bL) (And.intro (CA1.out wL bL).2.2.1 (And.intro (CA1.out wL bL).2.2.2.1 (CT.out wL bL))))
        | (go_at_call 39; refine (G39.out _).mono ?_; rintro x wA ⟨rfl, hhwA⟩; have bA := bL.trans (hhwA.mono bL.size); have CA := And.intro (CA0.out wA bA) (And.intro (CA1.out wA bA).2.2.1 (And.intro (CA1.out wA bA).2.2.2.1 (CT.out wA bA))))
        | (go_at_call 38; refine (G38.out _).mono ?_; rintro x wB ⟨rfl, hhwB⟩; have bB := bA.trans (hhwB.mono bA.size); have CB := And.intro (CA0.out wB bB) (And.intro (CA1.out wB bB).2.2.1 (And.intro (CA1.out wB bB).2.2.2.1 (CT.out wB bB))); have jB := BX.out wB bB; have k0 : wB.cell? ⟨A, 0, none⟩ = some (.string ⟨#[]⟩) := jB.row 0 _ rfl; have k1 : wB.cell? ⟨A, 1, none⟩ = some (.int .i64 0) := jB.row 1 _ rfl; have k2 : wB.cell? ⟨A, 2, none⟩ = some (.int .i64 0) := jB.row 2 _ rfl; have k3 : wB.cell? ⟨A, 3, none⟩ = some (.int .i64 0) := jB.row 3 _ rfl; have fz : ∀ i, wB.frozen? ⟨A, i, none⟩ = false := jB.free))
    have M1 := jB.set4 (.string tq) (.int .i64 q1) (.int .i64 q2) (.int .i64 q3)
    have M2 := set4_below (HB1.out.trans (bB.mono HB1.out.size)) hwA (.string tq) (.int .i64 q1) (.int .i64 q2) (.int .i64 q3)
    unfold Go.Proofs.Ytaohmmpfiehniaa.set4 at M1 M2
    have m0 := M1.row 0 _ rfl
    have m1 := M1.row 1 _ rfl
    have m2 := M1.row 2 _ rfl
    have m3 := M1.row 3 _ rfl
    have HM := Lib.hid M2
    clear M1 M2 jB bB k0 k1 k2 k3 fz
    go_wp2
    exact bodyPost_ret (v := .tuple #[snowV tq q1 q2 q3, .string ⟨#[]⟩, .bool true]) (by simp [results, Try.results17, go_sem, snowV, m0, m1, m2, m3]) rfl ⟨rfl, HM.out⟩


set_option maxRecDepth 20000 in
set_option maxHeartbeats 8000000 in
theorem sp_2_e (s : ByteArray) (r1 r2 rv : Int) (N st : Int) (SV : Value) (u : ByteArray) (f : Bool) (n : Nat) (t0 tq : ByteArray) (q1 q2 q3 : Int) (m : Nat) (hsz : t0.size + u.size ≤ 9223372036854775807) (w : World) (hRN : (∀ w, Calls Try.prog 10 #[.string s] w fun x w' => (∃ b cap, x = .returned (.slice (some ⟨b, 0, none⟩) n cap)) ∧ Below w.heap.size w w'))
    (hf : f = false) (bt ot k tcap : Nat) (t : ByteArray) (hSV : SV = .slice (some ⟨bt, ot, none⟩) k tcap) (hk0 : 0 < k) (hbt : w.cell? ⟨bt, ot, none⟩ = some (.string t)) (hG10 : (∀ w, Calls Try.prog 10 #[.string t] w fun x w' => (∃ b cap, x = .returned (.slice (some ⟨b, 0, none⟩) m cap)) ∧ Below w.heap.size w w')) (hG39 : (∀ w, Calls Try.prog 39 #[.string s, .int .i64 m] w fun x w' => x = .returned (.string t0) ∧ Below w.heap.size w w')) (hG38 : (∀ w, Calls Try.prog 38 #[.agg #[.string s, .int .i64 r1, .int .i64 r2, .int .i64 rv], .string (t0 ++ u)] w fun x w' => x = .returned (.agg #[.string tq, .int .i64 q1, .int .i64 q2, .int .i64 q3]) ∧ Below w.heap.size w w')) (hG23 : (∀ w, Calls Try.prog 23 #[.string s, .string t] w fun x w' => x = .returned (.bool true) ∧ w = w')) : Calls Try.prog 17 #[snowV s r1 r2 rv, stepV' 2 N st SV u f] w fun x w' => x = .returned (.tuple #[snowV tq q1 q2 q3, .string ⟨#[]⟩, .bool true]) ∧ Below w.heap.size w w' := by
    have RN := Lib.hid hRN
    clear hRN
    have G10 := Lib.hid hG10
    clear hG10
    have G39 := Lib.hid hG39
    clear hG39
    have G38 := Lib.hid hG38
    clear hG38
    have HSV := Lib.hid hSV
    clear hSV
    have HFF := Lib.hid hf
    clear hf
    have G23 := Lib.hid hG23
    clear hG23
    have HT := Lib.hid hbt
    clear hbt
    have nAb : bt < w.heap.size := World.block_lt_of_cell? w _ HT.out
    unfold snowV stepV'
    go_enter Try.func17, Try.ntmps17
    go_wp2_with fail
    change Calls _ _ _ (allocs w (spBlocks s r1 r2 rv 2 N st SV u f)) _
    have r0 : RowAt (allocs w (spBlocks s r1 r2 rv 2 N st SV u f)) w.heap.size #[.string s, .int .i64 r1, .int .i64 r2, .int .i64 rv] := allocs_row (i := 0) rfl rfl
    have r1' : RowAt (allocs w (spBlocks s r1 r2 rv 2 N st SV u f)) (w.heap.size + 1) #[.int .i64 2, .int .i64 N, .int .i64 st, SV, .string u, .bool f] := allocs_row (i := 1) rfl rfl
    have r2' : BoxAt (allocs w (spBlocks s r1 r2 rv 2 N st SV u f)) (w.heap.size + 2) #[.string ⟨#[]⟩, .int .i64 0, .int .i64 0, .int .i64 0] := allocs_at (spBlocks s r1 r2 rv 2 N st SV u f) w 2 (by show 2 < 3; omega)
    have hb0 : Below w.heap.size w (allocs w (spBlocks s r1 r2 rv 2 N st SV u f)) := allocs_below _ w _ (Nat.le_refl _)
    generalize allocs w (spBlocks s r1 r2 rv 2 N st SV u f) = W0 at *
    obtain ⟨a0, ha0⟩ : ∃ a, w.heap.size = a := ⟨_, rfl⟩
    obtain ⟨a1, ha1⟩ : ∃ a, w.heap.size + 1 = a := ⟨_, rfl⟩
    obtain ⟨A, hA⟩ : ∃ a, w.heap.size + 2 = a := ⟨_, rfl⟩
    have hA' : w.heap.size + 1 + 1 = A := hA
    have nA0 : a0 ≠ A := by omega
    have nA1 : a1 ≠ A := by omega
    have hwA : w.heap.size ≤ A := by omega
    rw [ha1] at r1'
    rw [hA] at r2'
    rw [ha0] at r0
    rw [hA', ha1, ha0]
    clear ha0 ha1 hA hA'
    refine (RN.out W0).mono ?_
    rintro x w1 ⟨⟨rb, rcap, rfl⟩, hb1⟩
    have HB1 := Lib.hid (hb0.trans (hb1.mono hb0.size))
    have R0 := r0.below hb1
    have R1 := r1'.below hb1
    have R2 := r2'.below hb1
    have c10 : w1.cell? ⟨a1, 0, none⟩ = some (.int .i64 2) := R1 0 _ rfl
    have CA0 := Lib.hid (fun (w' : World) (h : Below w1.heap.size w1 w') => (show w'.cell? ⟨a0, 0, none⟩ = some (.string s) ∧ w'.cell? ⟨a0, 1, none⟩ = some (.int .i64 r1) ∧ w'.cell? ⟨a0, 2, none⟩ = some (.int .i64 r2) ∧ w'.cell? ⟨a0, 3, none⟩ = some (.int .i64 rv) from ⟨belowRow h (R0 0 _ rfl), belowRow h (R0 1 _ rfl), belowRow h (R0 2 _ rfl), belowRow h (R0 3 _ rfl)⟩))
    have CA1 := Lib.hid (fun (w' : World) (h : Below w1.heap.size w1 w') => (show w'.cell? ⟨a1, 1, none⟩ = some (.int .i64 N) ∧ w'.cell? ⟨a1, 2, none⟩ = some (.int .i64 st) ∧ w'.cell? ⟨a1, 3, none⟩ = some SV ∧ w'.cell? ⟨a1, 4, none⟩ = some (.string u) ∧ w'.cell? ⟨a1, 5, none⟩ = some (.bool f) from ⟨belowRow h (R1 1 _ rfl), belowRow h (R1 2 _ rfl), belowRow h (R1 3 _ rfl), belowRow h (R1 4 _ rfl), belowRow h (R1 5 _ rfl)⟩))
    have BX := Lib.hid (fun (w' : World) (h : Below w1.heap.size w1 w') => R2.below h)
    have b0 := Lib.hid (below_drewN (Below.refl w1.heap.size w1) 1)
    clear R0 R1 R2 r0 r1' r2' hb1

    have CT := Lib.hid (fun (w' : World) (h : Below w1.heap.size w1 w') => belowRow h (belowRow HB1.out HT.out))
    have nAt : bt ≠ A := by omega
    have hSV := HSV.out
    have hf := HFF.out
    clear HSV HFF
    subst hSV hf
    go_wp2_with fail
    go_region_held3 (fun w' => w'.cell? ⟨a1, 3, none⟩ = some (.slice (some ⟨bt, ot, none⟩) k tcap) ∧ w'.cell? ⟨a1, 5, none⟩ = some (.bool false) ∧ w'.cell? ⟨bt, ot, none⟩ = some (.string t) ∧ w'.cell? ⟨a0, 0, none⟩ = some (.string s))
      (exact ⟨(CA1.out _ b0.out).2.2.1, (CA1.out _ b0.out).2.2.2.2, CT.out _ b0.out, (CA0.out _ b0.out).1⟩)
      (first
        | (go_at_call 23; refine (G23.out _).mono ?_; rintro x wZ ⟨rfl, rfl⟩))
    have b1 := Lib.hid (below_drewN b0.out 1)
    have hadd := fun w => add_ok t0 u hsz w
    go_wp2_with fail
    go_region_held3 (fun w' => (w'.cell? ⟨a0, 0, none⟩ = some (.string s) ∧ w'.cell? ⟨a0, 1, none⟩ = some (.int .i64 r1) ∧ w'.cell? ⟨a0, 2, none⟩ = some (.int .i64 r2) ∧ w'.cell? ⟨a0, 3, none⟩ = some (.int .i64 rv)) ∧ w'.cell? ⟨a1, 3, none⟩ = some (.slice (some ⟨bt, ot, none⟩) k tcap) ∧ w'.cell? ⟨a1, 4, none⟩ = some (.string u) ∧ w'.cell? ⟨bt, ot, none⟩ = some (.string t))
      (first | with_reducible exact ⟨⟨cell_other nA0 (cell_other nA0 (cell_other nA0 (cell_other nA0 CB.1.1))), cell_other nA0 (cell_other nA0 (cell_other nA0 (cell_other nA0 CB.1.2.1))), cell_other nA0 (cell_other nA0 (cell_other nA0 (cell_other nA0 CB.1.2.2.1))), cell_other nA0 (cell_other nA0 (cell_other nA0 (cell_other nA0 CB.1.2.2.2)))⟩, cell_other nA1 (cell_other nA1 (cell_other nA1 (cell_other nA1 CB.2.1))), cell_other nA1 (cell_other nA1 (cell_other nA1 (cell_other nA1 CB.2.2.1))), cell_other nAt (cell_other nAt (cell_other nAt (cell_other nAt CB.2.2.2)))⟩ | with_reducible exact CB | with_reducible exact CA | with_reducible exact CL | exact ⟨CA0.out _ b1.out, (CA1.out _ b1.out).2.2.1, (CA1.out _ b1.out).2.2.2.1, CT.out _ b1.out⟩)
      (first
        | (go_at_call 10; refine (G10.out _).mono ?_; rintro x wL ⟨⟨rb2, rc2, rfl⟩, hhwL⟩; have bL := b1.out.trans (hhwL.mono b1.out.size); have CL := And.intro (CA0.out wL bL) (And.intro (CA1.out wL bL).2.2.1 (And.intro (CA1.out wL bL).2.2.2.1 (CT.out wL bL))))
        | (go_at_call 39; refine (G39.out _).mono ?_; rintro x wA ⟨rfl, hhwA⟩; have bA := bL.trans (hhwA.mono bL.size); have CA := And.intro (CA0.out wA bA) (And.intro (CA1.out wA bA).2.2.1 (And.intro (CA1.out wA bA).2.2.2.1 (CT.out wA bA))))
        | (go_at_call 38; refine (G38.out _).mono ?_; rintro x wB ⟨rfl, hhwB⟩; have bB := bA.trans (hhwB.mono bA.size); have CB := And.intro (CA0.out wB bB) (And.intro (CA1.out wB bB).2.2.1 (And.intro (CA1.out wB bB).2.2.2.1 (CT.out wB bB))); have jB := BX.out wB bB; have k0 : wB.cell? ⟨A, 0, none⟩ = some (.string ⟨#[]⟩) := jB.row 0 _ rfl; have k1 : wB.cell? ⟨A, 1, none⟩ = some (.int .i64 0) := jB.row 1 _ rfl; have k2 : wB.cell? ⟨A, 2, none⟩ = some (.int .i64 0) := jB.row 2 _ rfl; have k3 : wB.cell? ⟨A, 3, none⟩ = some (.int .i64 0) := jB.row 3 _ rfl; have fz : ∀ i, wB.frozen? ⟨A, i, none⟩ = false := jB.free))
    have M1 := jB.set4 (.string tq) (.int .i64 q1) (.int .i64 q2) (.int .i64 q3)
    have M2 := set4_below (HB1.out.trans (bB.mono HB1.out.size)) hwA (.string tq) (.int .i64 q1) (.int .i64 q2) (.int .i64 q3)
    unfold Go.Proofs.Ytaohmmpfiehniaa.set4 at M1 M2
    have m0 := M1.row 0 _ rfl
    have m1 := M1.row 1 _ rfl
    have m2 := M1.row 2 _ rfl
    have m3 := M1.row 3 _ rfl
    have HM := Lib.hid M2
    clear M1 M2 jB bB k0 k1 k2 k3 fz
    go_wp2
    exact bodyPost_ret (v := .tuple #[snowV tq q1 q2 q3, .string ⟨#[]⟩, .bool true]) (by simp [results, Try.results17, go_sem, snowV, m0, m1, m2, m3]) rfl ⟨rfl, HM.out⟩


set_option maxRecDepth 20000 in
set_option maxHeartbeats 8000000 in
theorem sp_1_no (s : ByteArray) (r1 r2 rv : Int) (N st : Int) (SV : Value) (u : ByteArray) (f : Bool) (n : Nat) (w : World) (hRN : (∀ w, Calls Try.prog 10 #[.string s] w fun x w' => (∃ b cap, x = .returned (.slice (some ⟨b, 0, none⟩) n cap)) ∧ Below w.heap.size w w'))
    (hf : f = false) (bt ot k tcap : Nat) (t : ByteArray) (hSV : SV = .slice (some ⟨bt, ot, none⟩) k tcap) (hk0 : 0 < k) (hbt : w.cell? ⟨bt, ot, none⟩ = some (.string t)) (hG23 : (∀ w, Calls Try.prog 23 #[.string s, .string t] w fun x w' => x = .returned (.bool false) ∧ w = w')) : Calls Try.prog 17 #[snowV s r1 r2 rv, stepV' 1 N st SV u f] w fun x w' => x = .returned (.tuple #[snowV s r1 r2 rv, .string ⟨#[]⟩, .bool false]) ∧ Below w.heap.size w w' := by
    have RN := Lib.hid hRN
    clear hRN
    have G23 := Lib.hid hG23
    clear hG23
    have HSV := Lib.hid hSV
    clear hSV
    have HFF := Lib.hid hf
    clear hf
    have HT := Lib.hid hbt
    clear hbt
    have nAb : bt < w.heap.size := World.block_lt_of_cell? w _ HT.out
    unfold snowV stepV'
    go_enter Try.func17, Try.ntmps17
    go_wp2_with fail
    change Calls _ _ _ (allocs w (spBlocks s r1 r2 rv 1 N st SV u f)) _
    have r0 : RowAt (allocs w (spBlocks s r1 r2 rv 1 N st SV u f)) w.heap.size #[.string s, .int .i64 r1, .int .i64 r2, .int .i64 rv] := allocs_row (i := 0) rfl rfl
    have r1' : RowAt (allocs w (spBlocks s r1 r2 rv 1 N st SV u f)) (w.heap.size + 1) #[.int .i64 1, .int .i64 N, .int .i64 st, SV, .string u, .bool f] := allocs_row (i := 1) rfl rfl
    have r2' : BoxAt (allocs w (spBlocks s r1 r2 rv 1 N st SV u f)) (w.heap.size + 2) #[.string ⟨#[]⟩, .int .i64 0, .int .i64 0, .int .i64 0] := allocs_at (spBlocks s r1 r2 rv 1 N st SV u f) w 2 (by show 2 < 3; omega)
    have hb0 : Below w.heap.size w (allocs w (spBlocks s r1 r2 rv 1 N st SV u f)) := allocs_below _ w _ (Nat.le_refl _)
    generalize allocs w (spBlocks s r1 r2 rv 1 N st SV u f) = W0 at *
    obtain ⟨a0, ha0⟩ : ∃ a, w.heap.size = a := ⟨_, rfl⟩
    obtain ⟨a1, ha1⟩ : ∃ a, w.heap.size + 1 = a := ⟨_, rfl⟩
    obtain ⟨A, hA⟩ : ∃ a, w.heap.size + 2 = a := ⟨_, rfl⟩
    have hA' : w.heap.size + 1 + 1 = A := hA
    have nA0 : a0 ≠ A := by omega
    have nA1 : a1 ≠ A := by omega
    have hwA : w.heap.size ≤ A := by omega
    rw [ha1] at r1'
    rw [hA] at r2'
    rw [ha0] at r0
    rw [hA', ha1, ha0]
    clear ha0 ha1 hA hA'
    refine (RN.out W0).mono ?_
    rintro x w1 ⟨⟨rb, rcap, rfl⟩, hb1⟩
    have HB1 := Lib.hid (hb0.trans (hb1.mono hb0.size))
    have R0 := r0.below hb1
    have R1 := r1'.below hb1
    have R2 := r2'.below hb1
    have c10 : w1.cell? ⟨a1, 0, none⟩ = some (.int .i64 1) := R1 0 _ rfl
    have CA0 := Lib.hid (fun (w' : World) (h : Below w1.heap.size w1 w') => (show w'.cell? ⟨a0, 0, none⟩ = some (.string s) ∧ w'.cell? ⟨a0, 1, none⟩ = some (.int .i64 r1) ∧ w'.cell? ⟨a0, 2, none⟩ = some (.int .i64 r2) ∧ w'.cell? ⟨a0, 3, none⟩ = some (.int .i64 rv) from ⟨belowRow h (R0 0 _ rfl), belowRow h (R0 1 _ rfl), belowRow h (R0 2 _ rfl), belowRow h (R0 3 _ rfl)⟩))
    have CA1 := Lib.hid (fun (w' : World) (h : Below w1.heap.size w1 w') => (show w'.cell? ⟨a1, 1, none⟩ = some (.int .i64 N) ∧ w'.cell? ⟨a1, 2, none⟩ = some (.int .i64 st) ∧ w'.cell? ⟨a1, 3, none⟩ = some SV ∧ w'.cell? ⟨a1, 4, none⟩ = some (.string u) ∧ w'.cell? ⟨a1, 5, none⟩ = some (.bool f) from ⟨belowRow h (R1 1 _ rfl), belowRow h (R1 2 _ rfl), belowRow h (R1 3 _ rfl), belowRow h (R1 4 _ rfl), belowRow h (R1 5 _ rfl)⟩))
    have BX := Lib.hid (fun (w' : World) (h : Below w1.heap.size w1 w') => R2.below h)
    have b0 := Lib.hid (below_drewN (Below.refl w1.heap.size w1) 1)
    clear R0 R1 R2 r0 r1' r2' hb1

    have CT := Lib.hid (fun (w' : World) (h : Below w1.heap.size w1 w') => belowRow h (belowRow HB1.out HT.out))
    have hSV := HSV.out
    have hf := HFF.out
    clear HSV HFF
    subst hSV hf
    go_wp2_with fail
    go_region_held3 (fun w' => w'.cell? ⟨a1, 3, none⟩ = some (.slice (some ⟨bt, ot, none⟩) k tcap) ∧ w'.cell? ⟨a1, 5, none⟩ = some (.bool false) ∧ w'.cell? ⟨bt, ot, none⟩ = some (.string t) ∧ w'.cell? ⟨a0, 0, none⟩ = some (.string s))
      (exact ⟨(CA1.out _ b0.out).2.2.1, (CA1.out _ b0.out).2.2.2.2, CT.out _ b0.out, (CA0.out _ b0.out).1⟩)
      (first
        | (go_at_call 23; refine (G23.out _).mono ?_; rintro x wZ ⟨rfl, rfl⟩))
    have bB : Below w1.heap.size w1 w1.drew := b0.out
    have C0 := CA0.out _ bB
    have d0 : w1.drew.cell? ⟨a0, 0, none⟩ = some (.string s) := C0.1
    have d1 : w1.drew.cell? ⟨a0, 1, none⟩ = some (.int .i64 r1) := C0.2.1
    have d2 : w1.drew.cell? ⟨a0, 2, none⟩ = some (.int .i64 r2) := C0.2.2.1
    have d3 : w1.drew.cell? ⟨a0, 3, none⟩ = some (.int .i64 rv) := C0.2.2.2
    have jB := BX.out _ bB
    have k0 : w1.drew.cell? ⟨A, 0, none⟩ = some (.string ⟨#[]⟩) := jB.row 0 _ rfl
    have k1 : w1.drew.cell? ⟨A, 1, none⟩ = some (.int .i64 0) := jB.row 1 _ rfl
    have k2 : w1.drew.cell? ⟨A, 2, none⟩ = some (.int .i64 0) := jB.row 2 _ rfl
    have k3 : w1.drew.cell? ⟨A, 3, none⟩ = some (.int .i64 0) := jB.row 3 _ rfl
    have fz : ∀ i, w1.drew.frozen? ⟨A, i, none⟩ = false := jB.free
    have M1 := jB.set4 (.string s) (.int .i64 r1) (.int .i64 r2) (.int .i64 rv)
    have M2 := set4_below (HB1.out.trans (bB.mono HB1.out.size)) hwA (.string s) (.int .i64 r1) (.int .i64 r2) (.int .i64 rv)
    unfold Go.Proofs.Ytaohmmpfiehniaa.set4 at M1 M2
    have m0 := M1.row 0 _ rfl
    have m1 := M1.row 1 _ rfl
    have m2 := M1.row 2 _ rfl
    have m3 := M1.row 3 _ rfl
    have HM := Lib.hid M2
    clear M1 M2 jB bB C0
    generalize w1.drew = wB at *
    go_wp2
    exact bodyPost_ret (v := .tuple #[snowV s r1 r2 rv, .string ⟨#[]⟩, .bool false]) (by simp [results, Try.results17, go_sem, snowV, m0, m1, m2, m3]) rfl ⟨rfl, HM.out⟩


set_option maxRecDepth 20000 in
set_option maxHeartbeats 8000000 in
theorem sp_2_no (s : ByteArray) (r1 r2 rv : Int) (N st : Int) (SV : Value) (u : ByteArray) (f : Bool) (n : Nat) (w : World) (hRN : (∀ w, Calls Try.prog 10 #[.string s] w fun x w' => (∃ b cap, x = .returned (.slice (some ⟨b, 0, none⟩) n cap)) ∧ Below w.heap.size w w'))
    (hf : f = false) (bt ot k tcap : Nat) (t : ByteArray) (hSV : SV = .slice (some ⟨bt, ot, none⟩) k tcap) (hk0 : 0 < k) (hbt : w.cell? ⟨bt, ot, none⟩ = some (.string t)) (hG23 : (∀ w, Calls Try.prog 23 #[.string s, .string t] w fun x w' => x = .returned (.bool false) ∧ w = w')) : Calls Try.prog 17 #[snowV s r1 r2 rv, stepV' 2 N st SV u f] w fun x w' => x = .returned (.tuple #[snowV s r1 r2 rv, .string ⟨#[]⟩, .bool false]) ∧ Below w.heap.size w w' := by
    have RN := Lib.hid hRN
    clear hRN
    have G23 := Lib.hid hG23
    clear hG23
    have HSV := Lib.hid hSV
    clear hSV
    have HFF := Lib.hid hf
    clear hf
    have HT := Lib.hid hbt
    clear hbt
    have nAb : bt < w.heap.size := World.block_lt_of_cell? w _ HT.out
    unfold snowV stepV'
    go_enter Try.func17, Try.ntmps17
    go_wp2_with fail
    change Calls _ _ _ (allocs w (spBlocks s r1 r2 rv 2 N st SV u f)) _
    have r0 : RowAt (allocs w (spBlocks s r1 r2 rv 2 N st SV u f)) w.heap.size #[.string s, .int .i64 r1, .int .i64 r2, .int .i64 rv] := allocs_row (i := 0) rfl rfl
    have r1' : RowAt (allocs w (spBlocks s r1 r2 rv 2 N st SV u f)) (w.heap.size + 1) #[.int .i64 2, .int .i64 N, .int .i64 st, SV, .string u, .bool f] := allocs_row (i := 1) rfl rfl
    have r2' : BoxAt (allocs w (spBlocks s r1 r2 rv 2 N st SV u f)) (w.heap.size + 2) #[.string ⟨#[]⟩, .int .i64 0, .int .i64 0, .int .i64 0] := allocs_at (spBlocks s r1 r2 rv 2 N st SV u f) w 2 (by show 2 < 3; omega)
    have hb0 : Below w.heap.size w (allocs w (spBlocks s r1 r2 rv 2 N st SV u f)) := allocs_below _ w _ (Nat.le_refl _)
    generalize allocs w (spBlocks s r1 r2 rv 2 N st SV u f) = W0 at *
    obtain ⟨a0, ha0⟩ : ∃ a, w.heap.size = a := ⟨_, rfl⟩
    obtain ⟨a1, ha1⟩ : ∃ a, w.heap.size + 1 = a := ⟨_, rfl⟩
    obtain ⟨A, hA⟩ : ∃ a, w.heap.size + 2 = a := ⟨_, rfl⟩
    have hA' : w.heap.size + 1 + 1 = A := hA
    have nA0 : a0 ≠ A := by omega
    have nA1 : a1 ≠ A := by omega
    have hwA : w.heap.size ≤ A := by omega
    rw [ha1] at r1'
    rw [hA] at r2'
    rw [ha0] at r0
    rw [hA', ha1, ha0]
    clear ha0 ha1 hA hA'
    refine (RN.out W0).mono ?_
    rintro x w1 ⟨⟨rb, rcap, rfl⟩, hb1⟩
    have HB1 := Lib.hid (hb0.trans (hb1.mono hb0.size))
    have R0 := r0.below hb1
    have R1 := r1'.below hb1
    have R2 := r2'.below hb1
    have c10 : w1.cell? ⟨a1, 0, none⟩ = some (.int .i64 2) := R1 0 _ rfl
    have CA0 := Lib.hid (fun (w' : World) (h : Below w1.heap.size w1 w') => (show w'.cell? ⟨a0, 0, none⟩ = some (.string s) ∧ w'.cell? ⟨a0, 1, none⟩ = some (.int .i64 r1) ∧ w'.cell? ⟨a0, 2, none⟩ = some (.int .i64 r2) ∧ w'.cell? ⟨a0, 3, none⟩ = some (.int .i64 rv) from ⟨belowRow h (R0 0 _ rfl), belowRow h (R0 1 _ rfl), belowRow h (R0 2 _ rfl), belowRow h (R0 3 _ rfl)⟩))
    have CA1 := Lib.hid (fun (w' : World) (h : Below w1.heap.size w1 w') => (show w'.cell? ⟨a1, 1, none⟩ = some (.int .i64 N) ∧ w'.cell? ⟨a1, 2, none⟩ = some (.int .i64 st) ∧ w'.cell? ⟨a1, 3, none⟩ = some SV ∧ w'.cell? ⟨a1, 4, none⟩ = some (.string u) ∧ w'.cell? ⟨a1, 5, none⟩ = some (.bool f) from ⟨belowRow h (R1 1 _ rfl), belowRow h (R1 2 _ rfl), belowRow h (R1 3 _ rfl), belowRow h (R1 4 _ rfl), belowRow h (R1 5 _ rfl)⟩))
    have BX := Lib.hid (fun (w' : World) (h : Below w1.heap.size w1 w') => R2.below h)
    have b0 := Lib.hid (below_drewN (Below.refl w1.heap.size w1) 1)
    clear R0 R1 R2 r0 r1' r2' hb1

    have CT := Lib.hid (fun (w' : World) (h : Below w1.heap.size w1 w') => belowRow h (belowRow HB1.out HT.out))
    have hSV := HSV.out
    have hf := HFF.out
    clear HSV HFF
    subst hSV hf
    go_wp2_with fail
    go_region_held3 (fun w' => w'.cell? ⟨a1, 3, none⟩ = some (.slice (some ⟨bt, ot, none⟩) k tcap) ∧ w'.cell? ⟨a1, 5, none⟩ = some (.bool false) ∧ w'.cell? ⟨bt, ot, none⟩ = some (.string t) ∧ w'.cell? ⟨a0, 0, none⟩ = some (.string s))
      (exact ⟨(CA1.out _ b0.out).2.2.1, (CA1.out _ b0.out).2.2.2.2, CT.out _ b0.out, (CA0.out _ b0.out).1⟩)
      (first
        | (go_at_call 23; refine (G23.out _).mono ?_; rintro x wZ ⟨rfl, rfl⟩))
    have bB : Below w1.heap.size w1 w1.drew := b0.out
    have C0 := CA0.out _ bB
    have d0 : w1.drew.cell? ⟨a0, 0, none⟩ = some (.string s) := C0.1
    have d1 : w1.drew.cell? ⟨a0, 1, none⟩ = some (.int .i64 r1) := C0.2.1
    have d2 : w1.drew.cell? ⟨a0, 2, none⟩ = some (.int .i64 r2) := C0.2.2.1
    have d3 : w1.drew.cell? ⟨a0, 3, none⟩ = some (.int .i64 rv) := C0.2.2.2
    have jB := BX.out _ bB
    have k0 : w1.drew.cell? ⟨A, 0, none⟩ = some (.string ⟨#[]⟩) := jB.row 0 _ rfl
    have k1 : w1.drew.cell? ⟨A, 1, none⟩ = some (.int .i64 0) := jB.row 1 _ rfl
    have k2 : w1.drew.cell? ⟨A, 2, none⟩ = some (.int .i64 0) := jB.row 2 _ rfl
    have k3 : w1.drew.cell? ⟨A, 3, none⟩ = some (.int .i64 0) := jB.row 3 _ rfl
    have fz : ∀ i, w1.drew.frozen? ⟨A, i, none⟩ = false := jB.free
    have M1 := jB.set4 (.string s) (.int .i64 r1) (.int .i64 r2) (.int .i64 rv)
    have M2 := set4_below (HB1.out.trans (bB.mono HB1.out.size)) hwA (.string s) (.int .i64 r1) (.int .i64 r2) (.int .i64 rv)
    unfold Go.Proofs.Ytaohmmpfiehniaa.set4 at M1 M2
    have m0 := M1.row 0 _ rfl
    have m1 := M1.row 1 _ rfl
    have m2 := M1.row 2 _ rfl
    have m3 := M1.row 3 _ rfl
    have HM := Lib.hid M2
    clear M1 M2 jB bB C0
    generalize w1.drew = wB at *
    go_wp2
    exact bodyPost_ret (v := .tuple #[snowV s r1 r2 rv, .string ⟨#[]⟩, .bool false]) (by simp [results, Try.results17, go_sem, snowV, m0, m1, m2, m3]) rfl ⟨rfl, HM.out⟩


set_option maxRecDepth 20000 in
set_option maxHeartbeats 8000000 in
theorem sp_3 (s : ByteArray) (r1 r2 rv : Int) (N st : Int) (SV : Value) (u : ByteArray) (f : Bool) (n : Nat) (ad : Option Addr) (k tcap : Nat) (ss : List ByteArray) (hSV : SV = .slice ad k tcap) (txt t0 tq : ByteArray) (q1 q2 q3 : Int) (m : Nat) (w : World) (hRN : (∀ w, Calls Try.prog 10 #[.string s] w fun x w' => (∃ b cap, x = .returned (.slice (some ⟨b, 0, none⟩) n cap)) ∧ Below w.heap.size w w'))
    (hst : StrsAt w ad ss) (hG21 : ∀ w', StrsAt w' ad ss → Calls Try.prog 21 #[.string s, .slice ad k tcap, .bool false] w' fun x w2 => x = .returned (.string txt) ∧ w' = w2) (hG10 : (∀ w, Calls Try.prog 10 #[.string txt] w fun x w' => (∃ b cap, x = .returned (.slice (some ⟨b, 0, none⟩) m cap)) ∧ Below w.heap.size w w')) (hG39 : (∀ w, Calls Try.prog 39 #[.string s, .int .i64 m] w fun x w' => x = .returned (.string t0) ∧ Below w.heap.size w w')) (hG38 : (∀ w, Calls Try.prog 38 #[.agg #[.string s, .int .i64 r1, .int .i64 r2, .int .i64 rv], .string t0] w fun x w' => x = .returned (.agg #[.string tq, .int .i64 q1, .int .i64 q2, .int .i64 q3]) ∧ Below w.heap.size w w')) : Calls Try.prog 17 #[snowV s r1 r2 rv, stepV' 3 N st SV u f] w fun x w' => x = .returned (.tuple #[snowV tq q1 q2 q3, .string txt, .bool false]) ∧ Below w.heap.size w w' := by
    have RN := Lib.hid hRN
    clear hRN
    have G21 := Lib.hid hG21
    clear hG21
    have G10 := Lib.hid hG10
    clear hG10
    have G39 := Lib.hid hG39
    clear hG39
    have G38 := Lib.hid hG38
    clear hG38
    have HSV := Lib.hid hSV
    clear hSV
    have HT := Lib.hid hst
    clear hst
    unfold snowV stepV'
    go_enter Try.func17, Try.ntmps17
    go_wp2_with fail
    change Calls _ _ _ (allocs w (spBlocks s r1 r2 rv 3 N st SV u f)) _
    have r0 : RowAt (allocs w (spBlocks s r1 r2 rv 3 N st SV u f)) w.heap.size #[.string s, .int .i64 r1, .int .i64 r2, .int .i64 rv] := allocs_row (i := 0) rfl rfl
    have r1' : RowAt (allocs w (spBlocks s r1 r2 rv 3 N st SV u f)) (w.heap.size + 1) #[.int .i64 3, .int .i64 N, .int .i64 st, SV, .string u, .bool f] := allocs_row (i := 1) rfl rfl
    have r2' : BoxAt (allocs w (spBlocks s r1 r2 rv 3 N st SV u f)) (w.heap.size + 2) #[.string ⟨#[]⟩, .int .i64 0, .int .i64 0, .int .i64 0] := allocs_at (spBlocks s r1 r2 rv 3 N st SV u f) w 2 (by show 2 < 3; omega)
    have hb0 : Below w.heap.size w (allocs w (spBlocks s r1 r2 rv 3 N st SV u f)) := allocs_below _ w _ (Nat.le_refl _)
    generalize allocs w (spBlocks s r1 r2 rv 3 N st SV u f) = W0 at *
    obtain ⟨a0, ha0⟩ : ∃ a, w.heap.size = a := ⟨_, rfl⟩
    obtain ⟨a1, ha1⟩ : ∃ a, w.heap.size + 1 = a := ⟨_, rfl⟩
    obtain ⟨A, hA⟩ : ∃ a, w.heap.size + 2 = a := ⟨_, rfl⟩
    have hA' : w.heap.size + 1 + 1 = A := hA
    have nA0 : a0 ≠ A := by omega
    have nA1 : a1 ≠ A := by omega
    have hwA : w.heap.size ≤ A := by omega
    rw [ha1] at r1'
    rw [hA] at r2'
    rw [ha0] at r0
    rw [hA', ha1, ha0]
    clear ha0 ha1 hA hA'
    refine (RN.out W0).mono ?_
    rintro x w1 ⟨⟨rb, rcap, rfl⟩, hb1⟩
    have HB1 := Lib.hid (hb0.trans (hb1.mono hb0.size))
    have R0 := r0.below hb1
    have R1 := r1'.below hb1
    have R2 := r2'.below hb1
    have c10 : w1.cell? ⟨a1, 0, none⟩ = some (.int .i64 3) := R1 0 _ rfl
    have CA0 := Lib.hid (fun (w' : World) (h : Below w1.heap.size w1 w') => (show w'.cell? ⟨a0, 0, none⟩ = some (.string s) ∧ w'.cell? ⟨a0, 1, none⟩ = some (.int .i64 r1) ∧ w'.cell? ⟨a0, 2, none⟩ = some (.int .i64 r2) ∧ w'.cell? ⟨a0, 3, none⟩ = some (.int .i64 rv) from ⟨belowRow h (R0 0 _ rfl), belowRow h (R0 1 _ rfl), belowRow h (R0 2 _ rfl), belowRow h (R0 3 _ rfl)⟩))
    have CA1 := Lib.hid (fun (w' : World) (h : Below w1.heap.size w1 w') => (show w'.cell? ⟨a1, 1, none⟩ = some (.int .i64 N) ∧ w'.cell? ⟨a1, 2, none⟩ = some (.int .i64 st) ∧ w'.cell? ⟨a1, 3, none⟩ = some SV ∧ w'.cell? ⟨a1, 4, none⟩ = some (.string u) ∧ w'.cell? ⟨a1, 5, none⟩ = some (.bool f) from ⟨belowRow h (R1 1 _ rfl), belowRow h (R1 2 _ rfl), belowRow h (R1 3 _ rfl), belowRow h (R1 4 _ rfl), belowRow h (R1 5 _ rfl)⟩))
    have BX := Lib.hid (fun (w' : World) (h : Below w1.heap.size w1 w') => R2.below h)
    have b0 := Lib.hid (below_drewN (Below.refl w1.heap.size w1) 1)
    clear R0 R1 R2 r0 r1' r2' hb1

    have CT := Lib.hid (fun (w' : World) (h : Below w1.heap.size w1 w') => (HT.out.below HB1.out).below h)
    have hSV := HSV.out
    clear HSV
    subst hSV
    have z0 := Lib.hid (Below.refl w1.heap.size w1)
    have d0 : w1.cell? ⟨a0, 0, none⟩ = some (.string s) := (CA0.out _ z0.out).1
    have d3 : w1.cell? ⟨a1, 3, none⟩ = some (.slice ad k tcap) := (CA1.out _ z0.out).2.2.1
    go_wp2_with fail
    refine (G21.out _ (CT.out _ z0.out)).mono ?_
    rintro x w2 ⟨rfl, rfl⟩
    have b1 := Lib.hid (below_drewN z0.out 1)
    clear d0 d3
    go_wp2_with fail
    go_region_held3 (fun w' => w'.cell? ⟨a0, 0, none⟩ = some (.string s) ∧ w'.cell? ⟨a0, 1, none⟩ = some (.int .i64 r1) ∧ w'.cell? ⟨a0, 2, none⟩ = some (.int .i64 r2) ∧ w'.cell? ⟨a0, 3, none⟩ = some (.int .i64 rv))
      (first | with_reducible exact ⟨cell_other nA0 (cell_other nA0 (cell_other nA0 (cell_other nA0 CB.1))), cell_other nA0 (cell_other nA0 (cell_other nA0 (cell_other nA0 CB.2.1))), cell_other nA0 (cell_other nA0 (cell_other nA0 (cell_other nA0 CB.2.2.1))), cell_other nA0 (cell_other nA0 (cell_other nA0 (cell_other nA0 CB.2.2.2)))⟩ | with_reducible exact CB | with_reducible exact CA | with_reducible exact CL | exact CA0.out _ b1.out)
      (first
        | (go_at_call 10; refine (G10.out _).mono ?_; rintro x wL ⟨⟨rb2, rc2, rfl⟩, hhwL⟩; have bL := b1.out.trans (hhwL.mono b1.out.size); have CL := CA0.out wL bL)
        | (go_at_call 39; refine (G39.out _).mono ?_; rintro x wA ⟨rfl, hhwA⟩; have bA := bL.trans (hhwA.mono bL.size); have CA := CA0.out wA bA)
        | (go_at_call 38; refine (G38.out _).mono ?_; rintro x wB ⟨rfl, hhwB⟩; have bB := bA.trans (hhwB.mono bA.size); have CB := CA0.out wB bB; have jB := BX.out wB bB; have k0 : wB.cell? ⟨A, 0, none⟩ = some (.string ⟨#[]⟩) := jB.row 0 _ rfl; have k1 : wB.cell? ⟨A, 1, none⟩ = some (.int .i64 0) := jB.row 1 _ rfl; have k2 : wB.cell? ⟨A, 2, none⟩ = some (.int .i64 0) := jB.row 2 _ rfl; have k3 : wB.cell? ⟨A, 3, none⟩ = some (.int .i64 0) := jB.row 3 _ rfl; have fz : ∀ i, wB.frozen? ⟨A, i, none⟩ = false := jB.free))
    have M1 := jB.set4 (.string tq) (.int .i64 q1) (.int .i64 q2) (.int .i64 q3)
    have M2 := set4_below (HB1.out.trans (bB.mono HB1.out.size)) hwA (.string tq) (.int .i64 q1) (.int .i64 q2) (.int .i64 q3)
    unfold Go.Proofs.Ytaohmmpfiehniaa.set4 at M1 M2
    have m0 := M1.row 0 _ rfl
    have m1 := M1.row 1 _ rfl
    have m2 := M1.row 2 _ rfl
    have m3 := M1.row 3 _ rfl
    have HM := Lib.hid M2
    clear M1 M2 jB bB k0 k1 k2 k3 fz
    go_wp2
    exact bodyPost_ret (v := .tuple #[snowV tq q1 q2 q3, .string txt, .bool false]) (by simp [results, Try.results17, go_sem, snowV, m0, m1, m2, m3]) rfl ⟨rfl, HM.out⟩


set_option maxRecDepth 20000 in
set_option maxHeartbeats 8000000 in
theorem sp_4 (s : ByteArray) (r1 r2 rv : Int) (N st : Int) (SV : Value) (u : ByteArray) (f : Bool) (n : Nat) (ad : Option Addr) (k tcap : Nat) (ss : List ByteArray) (hSV : SV = .slice ad k tcap) (txt pq t0 tq : ByteArray) (q1 q2 q3 : Int) (m : Nat) (w : World) (hRN : (∀ w, Calls Try.prog 10 #[.string s] w fun x w' => (∃ b cap, x = .returned (.slice (some ⟨b, 0, none⟩) n cap)) ∧ Below w.heap.size w w'))
    (hst : StrsAt w ad ss) (hG20 : (∀ w, Calls Try.prog 20 #[.string s, .int .i64 st, .int .i64 n] w fun x w' => x = .returned (.string pq) ∧ Below w.heap.size w w')) (hG21 : ∀ w', StrsAt w' ad ss → Calls Try.prog 21 #[.string pq, .slice ad k tcap, .bool false] w' fun x w2 => x = .returned (.string txt) ∧ w' = w2) (hG10 : (∀ w, Calls Try.prog 10 #[.string txt] w fun x w' => (∃ b cap, x = .returned (.slice (some ⟨b, 0, none⟩) m cap)) ∧ Below w.heap.size w w')) (hG39 : (∀ w, Calls Try.prog 39 #[.string s, .int .i64 m] w fun x w' => x = .returned (.string t0) ∧ Below w.heap.size w w')) (hG38 : (∀ w, Calls Try.prog 38 #[.agg #[.string s, .int .i64 r1, .int .i64 r2, .int .i64 rv], .string t0] w fun x w' => x = .returned (.agg #[.string tq, .int .i64 q1, .int .i64 q2, .int .i64 q3]) ∧ Below w.heap.size w w')) : Calls Try.prog 17 #[snowV s r1 r2 rv, stepV' 4 N st SV u f] w fun x w' => x = .returned (.tuple #[snowV tq q1 q2 q3, .string txt, .bool false]) ∧ Below w.heap.size w w' := by
    have RN := Lib.hid hRN
    clear hRN
    have G20 := Lib.hid hG20
    clear hG20
    have G21 := Lib.hid hG21
    clear hG21
    have G10 := Lib.hid hG10
    clear hG10
    have G39 := Lib.hid hG39
    clear hG39
    have G38 := Lib.hid hG38
    clear hG38
    have HSV := Lib.hid hSV
    clear hSV
    have HT := Lib.hid hst
    clear hst
    unfold snowV stepV'
    go_enter Try.func17, Try.ntmps17
    go_wp2_with fail
    change Calls _ _ _ (allocs w (spBlocks s r1 r2 rv 4 N st SV u f)) _
    have r0 : RowAt (allocs w (spBlocks s r1 r2 rv 4 N st SV u f)) w.heap.size #[.string s, .int .i64 r1, .int .i64 r2, .int .i64 rv] := allocs_row (i := 0) rfl rfl
    have r1' : RowAt (allocs w (spBlocks s r1 r2 rv 4 N st SV u f)) (w.heap.size + 1) #[.int .i64 4, .int .i64 N, .int .i64 st, SV, .string u, .bool f] := allocs_row (i := 1) rfl rfl
    have r2' : BoxAt (allocs w (spBlocks s r1 r2 rv 4 N st SV u f)) (w.heap.size + 2) #[.string ⟨#[]⟩, .int .i64 0, .int .i64 0, .int .i64 0] := allocs_at (spBlocks s r1 r2 rv 4 N st SV u f) w 2 (by show 2 < 3; omega)
    have hb0 : Below w.heap.size w (allocs w (spBlocks s r1 r2 rv 4 N st SV u f)) := allocs_below _ w _ (Nat.le_refl _)
    generalize allocs w (spBlocks s r1 r2 rv 4 N st SV u f) = W0 at *
    obtain ⟨a0, ha0⟩ : ∃ a, w.heap.size = a := ⟨_, rfl⟩
    obtain ⟨a1, ha1⟩ : ∃ a, w.heap.size + 1 = a := ⟨_, rfl⟩
    obtain ⟨A, hA⟩ : ∃ a, w.heap.size + 2 = a := ⟨_, rfl⟩
    have hA' : w.heap.size + 1 + 1 = A := hA
    have nA0 : a0 ≠ A := by omega
    have nA1 : a1 ≠ A := by omega
    have hwA : w.heap.size ≤ A := by omega
    rw [ha1] at r1'
    rw [hA] at r2'
    rw [ha0] at r0
    rw [hA', ha1, ha0]
    clear ha0 ha1 hA hA'
    refine (RN.out W0).mono ?_
    rintro x w1 ⟨⟨rb, rcap, rfl⟩, hb1⟩
    have HB1 := Lib.hid (hb0.trans (hb1.mono hb0.size))
    have R0 := r0.below hb1
    have R1 := r1'.below hb1
    have R2 := r2'.below hb1
    have c10 : w1.cell? ⟨a1, 0, none⟩ = some (.int .i64 4) := R1 0 _ rfl
    have CA0 := Lib.hid (fun (w' : World) (h : Below w1.heap.size w1 w') => (show w'.cell? ⟨a0, 0, none⟩ = some (.string s) ∧ w'.cell? ⟨a0, 1, none⟩ = some (.int .i64 r1) ∧ w'.cell? ⟨a0, 2, none⟩ = some (.int .i64 r2) ∧ w'.cell? ⟨a0, 3, none⟩ = some (.int .i64 rv) from ⟨belowRow h (R0 0 _ rfl), belowRow h (R0 1 _ rfl), belowRow h (R0 2 _ rfl), belowRow h (R0 3 _ rfl)⟩))
    have CA1 := Lib.hid (fun (w' : World) (h : Below w1.heap.size w1 w') => (show w'.cell? ⟨a1, 1, none⟩ = some (.int .i64 N) ∧ w'.cell? ⟨a1, 2, none⟩ = some (.int .i64 st) ∧ w'.cell? ⟨a1, 3, none⟩ = some SV ∧ w'.cell? ⟨a1, 4, none⟩ = some (.string u) ∧ w'.cell? ⟨a1, 5, none⟩ = some (.bool f) from ⟨belowRow h (R1 1 _ rfl), belowRow h (R1 2 _ rfl), belowRow h (R1 3 _ rfl), belowRow h (R1 4 _ rfl), belowRow h (R1 5 _ rfl)⟩))
    have BX := Lib.hid (fun (w' : World) (h : Below w1.heap.size w1 w') => R2.below h)
    have b0 := Lib.hid (below_drewN (Below.refl w1.heap.size w1) 1)
    clear R0 R1 R2 r0 r1' r2' hb1

    have CT := Lib.hid (fun (w' : World) (h : Below w1.heap.size w1 w') => (HT.out.below HB1.out).below h)
    have hSV := HSV.out
    clear HSV
    subst hSV
    go_wp2_with fail
    go_region_held3 (fun w' => w'.cell? ⟨a0, 0, none⟩ = some (.string s) ∧ w'.cell? ⟨a1, 2, none⟩ = some (.int .i64 st) ∧ w'.cell? ⟨a1, 3, none⟩ = some (.slice ad k tcap))
      (first | with_reducible exact CP | exact ⟨(CA0.out _ b0.out).1, (CA1.out _ b0.out).2.1, (CA1.out _ b0.out).2.2.1⟩)
      (first
        | (go_at_call 20; refine (G20.out _).mono ?_; rintro x wP ⟨rfl, hhwP⟩; have bP := b0.out.trans (hhwP.mono b0.out.size); have CP := And.intro (CA0.out wP bP).1 (And.intro (CA1.out wP bP).2.1 (CA1.out wP bP).2.2.1))
        | (go_at_call 21; refine (G21.out _ (by exact CT.out _ bP)).mono ?_; rintro x wQ ⟨rfl, rfl⟩))
    have b1 := Lib.hid (below_drewN bP 1)
    clear CP
    go_wp2_with fail
    go_region_held3 (fun w' => w'.cell? ⟨a0, 0, none⟩ = some (.string s) ∧ w'.cell? ⟨a0, 1, none⟩ = some (.int .i64 r1) ∧ w'.cell? ⟨a0, 2, none⟩ = some (.int .i64 r2) ∧ w'.cell? ⟨a0, 3, none⟩ = some (.int .i64 rv))
      (first | with_reducible exact ⟨cell_other nA0 (cell_other nA0 (cell_other nA0 (cell_other nA0 CB.1))), cell_other nA0 (cell_other nA0 (cell_other nA0 (cell_other nA0 CB.2.1))), cell_other nA0 (cell_other nA0 (cell_other nA0 (cell_other nA0 CB.2.2.1))), cell_other nA0 (cell_other nA0 (cell_other nA0 (cell_other nA0 CB.2.2.2)))⟩ | with_reducible exact CB | with_reducible exact CA | with_reducible exact CL | exact CA0.out _ b1.out)
      (first
        | (go_at_call 10; refine (G10.out _).mono ?_; rintro x wL ⟨⟨rb2, rc2, rfl⟩, hhwL⟩; have bL := b1.out.trans (hhwL.mono b1.out.size); have CL := CA0.out wL bL)
        | (go_at_call 39; refine (G39.out _).mono ?_; rintro x wA ⟨rfl, hhwA⟩; have bA := bL.trans (hhwA.mono bL.size); have CA := CA0.out wA bA)
        | (go_at_call 38; refine (G38.out _).mono ?_; rintro x wB ⟨rfl, hhwB⟩; have bB := bA.trans (hhwB.mono bA.size); have CB := CA0.out wB bB; have jB := BX.out wB bB; have k0 : wB.cell? ⟨A, 0, none⟩ = some (.string ⟨#[]⟩) := jB.row 0 _ rfl; have k1 : wB.cell? ⟨A, 1, none⟩ = some (.int .i64 0) := jB.row 1 _ rfl; have k2 : wB.cell? ⟨A, 2, none⟩ = some (.int .i64 0) := jB.row 2 _ rfl; have k3 : wB.cell? ⟨A, 3, none⟩ = some (.int .i64 0) := jB.row 3 _ rfl; have fz : ∀ i, wB.frozen? ⟨A, i, none⟩ = false := jB.free))
    have M1 := jB.set4 (.string tq) (.int .i64 q1) (.int .i64 q2) (.int .i64 q3)
    have M2 := set4_below (HB1.out.trans (bB.mono HB1.out.size)) hwA (.string tq) (.int .i64 q1) (.int .i64 q2) (.int .i64 q3)
    unfold Go.Proofs.Ytaohmmpfiehniaa.set4 at M1 M2
    have m0 := M1.row 0 _ rfl
    have m1 := M1.row 1 _ rfl
    have m2 := M1.row 2 _ rfl
    have m3 := M1.row 3 _ rfl
    have HM := Lib.hid M2
    clear M1 M2 jB bB k0 k1 k2 k3 fz
    go_wp2
    exact bodyPost_ret (v := .tuple #[snowV tq q1 q2 q3, .string txt, .bool false]) (by simp [results, Try.results17, go_sem, snowV, m0, m1, m2, m3]) rfl ⟨rfl, HM.out⟩


set_option maxRecDepth 20000 in
set_option maxHeartbeats 8000000 in
theorem sp_5 (s : ByteArray) (r1 r2 rv : Int) (N st : Int) (SV : Value) (u : ByteArray) (f : Bool) (n : Nat) (ad : Option Addr) (k tcap : Nat) (ss : List ByteArray) (hSV : SV = .slice ad k tcap) (txt t0 tq : ByteArray) (q1 q2 q3 : Int) (m : Nat) (w : World) (hRN : (∀ w, Calls Try.prog 10 #[.string s] w fun x w' => (∃ b cap, x = .returned (.slice (some ⟨b, 0, none⟩) n cap)) ∧ Below w.heap.size w w'))
    (hst : StrsAt w ad ss) (hG22 : ∀ w', StrsAt w' ad ss → Calls Try.prog 22 #[.string s, .int .i64 st, .int .i64 n, .slice ad k tcap] w' fun x w2 => x = .returned (.string txt) ∧ Below w'.heap.size w' w2) (hG10 : (∀ w, Calls Try.prog 10 #[.string txt] w fun x w' => (∃ b cap, x = .returned (.slice (some ⟨b, 0, none⟩) m cap)) ∧ Below w.heap.size w w')) (hG39 : (∀ w, Calls Try.prog 39 #[.string s, .int .i64 m] w fun x w' => x = .returned (.string t0) ∧ Below w.heap.size w w')) (hG38 : (∀ w, Calls Try.prog 38 #[.agg #[.string s, .int .i64 r1, .int .i64 r2, .int .i64 rv], .string t0] w fun x w' => x = .returned (.agg #[.string tq, .int .i64 q1, .int .i64 q2, .int .i64 q3]) ∧ Below w.heap.size w w')) : Calls Try.prog 17 #[snowV s r1 r2 rv, stepV' 5 N st SV u f] w fun x w' => x = .returned (.tuple #[snowV tq q1 q2 q3, .string txt, .bool false]) ∧ Below w.heap.size w w' := by
    have RN := Lib.hid hRN
    clear hRN
    have G22 := Lib.hid hG22
    clear hG22
    have G10 := Lib.hid hG10
    clear hG10
    have G39 := Lib.hid hG39
    clear hG39
    have G38 := Lib.hid hG38
    clear hG38
    have HSV := Lib.hid hSV
    clear hSV
    have HT := Lib.hid hst
    clear hst
    unfold snowV stepV'
    go_enter Try.func17, Try.ntmps17
    go_wp2_with fail
    change Calls _ _ _ (allocs w (spBlocks s r1 r2 rv 5 N st SV u f)) _
    have r0 : RowAt (allocs w (spBlocks s r1 r2 rv 5 N st SV u f)) w.heap.size #[.string s, .int .i64 r1, .int .i64 r2, .int .i64 rv] := allocs_row (i := 0) rfl rfl
    have r1' : RowAt (allocs w (spBlocks s r1 r2 rv 5 N st SV u f)) (w.heap.size + 1) #[.int .i64 5, .int .i64 N, .int .i64 st, SV, .string u, .bool f] := allocs_row (i := 1) rfl rfl
    have r2' : BoxAt (allocs w (spBlocks s r1 r2 rv 5 N st SV u f)) (w.heap.size + 2) #[.string ⟨#[]⟩, .int .i64 0, .int .i64 0, .int .i64 0] := allocs_at (spBlocks s r1 r2 rv 5 N st SV u f) w 2 (by show 2 < 3; omega)
    have hb0 : Below w.heap.size w (allocs w (spBlocks s r1 r2 rv 5 N st SV u f)) := allocs_below _ w _ (Nat.le_refl _)
    generalize allocs w (spBlocks s r1 r2 rv 5 N st SV u f) = W0 at *
    obtain ⟨a0, ha0⟩ : ∃ a, w.heap.size = a := ⟨_, rfl⟩
    obtain ⟨a1, ha1⟩ : ∃ a, w.heap.size + 1 = a := ⟨_, rfl⟩
    obtain ⟨A, hA⟩ : ∃ a, w.heap.size + 2 = a := ⟨_, rfl⟩
    have hA' : w.heap.size + 1 + 1 = A := hA
    have nA0 : a0 ≠ A := by omega
    have nA1 : a1 ≠ A := by omega
    have hwA : w.heap.size ≤ A := by omega
    rw [ha1] at r1'
    rw [hA] at r2'
    rw [ha0] at r0
    rw [hA', ha1, ha0]
    clear ha0 ha1 hA hA'
    refine (RN.out W0).mono ?_
    rintro x w1 ⟨⟨rb, rcap, rfl⟩, hb1⟩
    have HB1 := Lib.hid (hb0.trans (hb1.mono hb0.size))
    have R0 := r0.below hb1
    have R1 := r1'.below hb1
    have R2 := r2'.below hb1
    have c10 : w1.cell? ⟨a1, 0, none⟩ = some (.int .i64 5) := R1 0 _ rfl
    have CA0 := Lib.hid (fun (w' : World) (h : Below w1.heap.size w1 w') => (show w'.cell? ⟨a0, 0, none⟩ = some (.string s) ∧ w'.cell? ⟨a0, 1, none⟩ = some (.int .i64 r1) ∧ w'.cell? ⟨a0, 2, none⟩ = some (.int .i64 r2) ∧ w'.cell? ⟨a0, 3, none⟩ = some (.int .i64 rv) from ⟨belowRow h (R0 0 _ rfl), belowRow h (R0 1 _ rfl), belowRow h (R0 2 _ rfl), belowRow h (R0 3 _ rfl)⟩))
    have CA1 := Lib.hid (fun (w' : World) (h : Below w1.heap.size w1 w') => (show w'.cell? ⟨a1, 1, none⟩ = some (.int .i64 N) ∧ w'.cell? ⟨a1, 2, none⟩ = some (.int .i64 st) ∧ w'.cell? ⟨a1, 3, none⟩ = some SV ∧ w'.cell? ⟨a1, 4, none⟩ = some (.string u) ∧ w'.cell? ⟨a1, 5, none⟩ = some (.bool f) from ⟨belowRow h (R1 1 _ rfl), belowRow h (R1 2 _ rfl), belowRow h (R1 3 _ rfl), belowRow h (R1 4 _ rfl), belowRow h (R1 5 _ rfl)⟩))
    have BX := Lib.hid (fun (w' : World) (h : Below w1.heap.size w1 w') => R2.below h)
    have b0 := Lib.hid (below_drewN (Below.refl w1.heap.size w1) 1)
    clear R0 R1 R2 r0 r1' r2' hb1

    have CT := Lib.hid (fun (w' : World) (h : Below w1.heap.size w1 w') => (HT.out.below HB1.out).below h)
    have hSV := HSV.out
    clear HSV
    subst hSV
    have z0 := Lib.hid (Below.refl w1.heap.size w1)
    have d0 : w1.cell? ⟨a0, 0, none⟩ = some (.string s) := (CA0.out _ z0.out).1
    have d2 : w1.cell? ⟨a1, 2, none⟩ = some (.int .i64 st) := (CA1.out _ z0.out).2.1
    have d3 : w1.cell? ⟨a1, 3, none⟩ = some (.slice ad k tcap) := (CA1.out _ z0.out).2.2.1
    go_wp2_with fail
    refine (G22.out _ (CT.out _ z0.out)).mono ?_
    rintro x w2 ⟨rfl, hb2⟩
    have b1 := Lib.hid (below_drewN (z0.out.trans (hb2.mono z0.out.size)) 1)
    clear d0 d2 d3 hb2 c10
    go_wp2_with fail
    go_region_held3 (fun w' => w'.cell? ⟨a0, 0, none⟩ = some (.string s) ∧ w'.cell? ⟨a0, 1, none⟩ = some (.int .i64 r1) ∧ w'.cell? ⟨a0, 2, none⟩ = some (.int .i64 r2) ∧ w'.cell? ⟨a0, 3, none⟩ = some (.int .i64 rv))
      (first | with_reducible exact ⟨cell_other nA0 (cell_other nA0 (cell_other nA0 (cell_other nA0 CB.1))), cell_other nA0 (cell_other nA0 (cell_other nA0 (cell_other nA0 CB.2.1))), cell_other nA0 (cell_other nA0 (cell_other nA0 (cell_other nA0 CB.2.2.1))), cell_other nA0 (cell_other nA0 (cell_other nA0 (cell_other nA0 CB.2.2.2)))⟩ | with_reducible exact CB | with_reducible exact CA | with_reducible exact CL | exact CA0.out _ b1.out)
      (first
        | (go_at_call 10; refine (G10.out _).mono ?_; rintro x wL ⟨⟨rb2, rc2, rfl⟩, hhwL⟩; have bL := b1.out.trans (hhwL.mono b1.out.size); have CL := CA0.out wL bL)
        | (go_at_call 39; refine (G39.out _).mono ?_; rintro x wA ⟨rfl, hhwA⟩; have bA := bL.trans (hhwA.mono bL.size); have CA := CA0.out wA bA)
        | (go_at_call 38; refine (G38.out _).mono ?_; rintro x wB ⟨rfl, hhwB⟩; have bB := bA.trans (hhwB.mono bA.size); have CB := CA0.out wB bB; have jB := BX.out wB bB; have k0 : wB.cell? ⟨A, 0, none⟩ = some (.string ⟨#[]⟩) := jB.row 0 _ rfl; have k1 : wB.cell? ⟨A, 1, none⟩ = some (.int .i64 0) := jB.row 1 _ rfl; have k2 : wB.cell? ⟨A, 2, none⟩ = some (.int .i64 0) := jB.row 2 _ rfl; have k3 : wB.cell? ⟨A, 3, none⟩ = some (.int .i64 0) := jB.row 3 _ rfl; have fz : ∀ i, wB.frozen? ⟨A, i, none⟩ = false := jB.free))
    have M1 := jB.set4 (.string tq) (.int .i64 q1) (.int .i64 q2) (.int .i64 q3)
    have M2 := set4_below (HB1.out.trans (bB.mono HB1.out.size)) hwA (.string tq) (.int .i64 q1) (.int .i64 q2) (.int .i64 q3)
    unfold Go.Proofs.Ytaohmmpfiehniaa.set4 at M1 M2
    have m0 := M1.row 0 _ rfl
    have m1 := M1.row 1 _ rfl
    have m2 := M1.row 2 _ rfl
    have m3 := M1.row 3 _ rfl
    have HM := Lib.hid M2
    clear M1 M2 jB bB k0 k1 k2 k3 fz
    go_wp2
    exact bodyPost_ret (v := .tuple #[snowV tq q1 q2 q3, .string txt, .bool false]) (by simp [results, Try.results17, go_sem, snowV, m0, m1, m2, m3]) rfl ⟨rfl, HM.out⟩

end Go.Proofs.Ytaohmmpfiehniaa
