/- The contracts of impl.SnowStepped at the numbers that snowAlive asks, and of snowAlive. -/
import Derived.Test.YtaohmmpfiehniaaStep
set_option linter.unusedVariables false
set_option linter.unusedSimpArgs false
namespace Go.Proofs.Ytaohmmpfiehniaa
open Go.RowKit

theorem WordAt.other {w : World} {p : Nat} {cs : Array Value} (h : WordAt w p cs) {c j : Nat} (hn : p ≠ c) (y : Value) : WordAt (w.setCell ⟨c, j, none⟩ y) p cs := by
  unfold WordAt at h ⊢; rw [Below.heap_setCell _ _ _ _ (by simpa using hn)]; exact h
theorem RunesAt.other {w : World} {b : Nat} {rs : List Int} (h : RunesAt w b rs) {c j : Nat} (hn : b ≠ c) (y : Value) : RunesAt (w.setCell ⟨c, j, none⟩ y) b rs :=
  fun i hi => cell_other hn (h i hi)
theorem bytes_tables : runesBytes rsTables = sTables := by decide
theorem bytes_tabl : runesBytes [116, 97, 98, 108] = sTabl := by decide

/-- A block of four cells that may be written. -/
def BoxAt (w : World) (p : Nat) (cs : Array Value) : Prop := w.heap[p]? = some (.cells cs 27 (0, 0))
theorem BoxAt.below {w w1 : World} {p : Nat} {cs : Array Value} (h : BoxAt w p cs) (hb : Below w.heap.size w w1) : BoxAt w1 p cs := by
  unfold BoxAt at h ⊢
  rw [hb.block p (by have := (Array.getElem?_eq_some_iff.1 h).1; exact this)]; exact h
theorem BoxAt.row {w : World} {p : Nat} {cs : Array Value} (h : BoxAt w p cs) : RowAt w p cs := by
  intro i x hx; unfold World.cell?; rw [show w.heap[(⟨p, i, none⟩ : Addr).block]? = _ from h]; simpa using hx
theorem BoxAt.free {w : World} {p : Nat} {cs : Array Value} (h : BoxAt w p cs) (i : Nat) : w.frozen? ⟨p, i, none⟩ = false := by
  unfold World.frozen?; rw [show w.heap[(⟨p, i, none⟩ : Addr).block]? = _ from h]; simp
theorem BoxAt.other {w : World} {p : Nat} {cs : Array Value} (h : BoxAt w p cs) {c j : Nat} (hn : p ≠ c) (y : Value) : BoxAt (w.setCell ⟨c, j, none⟩ y) p cs := by
  unfold BoxAt at h ⊢; rw [Below.heap_setCell _ _ _ _ (by simpa using hn)]; exact h
theorem BoxAt.set {w : World} {p : Nat} {cs : Array Value} (h : BoxAt w p cs) (i : Nat) (y : Value) : BoxAt (w.setCell ⟨p, i, none⟩ y) p (cs.setIfInBounds i y) := by
  unfold BoxAt at h ⊢
  simp only [World.setCell]
  rw [Array.getElem?_modify]
  simp [h]
theorem BoxAt.set4 {w : World} {p : Nat} {x0 x1 x2 x3 : Value} (h : BoxAt w p #[x0, x1, x2, x3]) (y0 y1 y2 y3 : Value) : BoxAt (set4 w p y0 y1 y2 y3) p #[y0, y1, y2, y3] :=
  (((h.set 0 y0).set 1 y1).set 2 y2).set 3 y3
theorem BoxAt.drewN {w : World} {p : Nat} {cs : Array Value} (h : BoxAt w p cs) (n : Nat) : BoxAt (w.drewN n) p cs := h

theorem set4_heap (w : World) (A : Nat) (y0 y1 y2 y3 : Value) (k : Nat) (h : k ≠ A) : (set4 w A y0 y1 y2 y3).heap[k]? = w.heap[k]? := by
  unfold Go.Proofs.Ytaohmmpfiehniaa.set4
  rw [Below.heap_setCell _ _ _ _ (by simpa using h), Below.heap_setCell _ _ _ _ (by simpa using h), Below.heap_setCell _ _ _ _ (by simpa using h), Below.heap_setCell _ _ _ _ (by simpa using h)]

set_option maxHeartbeats 1000000 in
theorem st_closure (a0 a1 a2 a3 a4 tb : Nat) (x3 : Value) (z : Array Value) (w : World) (hs : RowAt w a0 #[.string sTables, .int .i64 6, .int .i64 6, .int .i64 6])
    (hk : w.cell? ⟨a1, 0, none⟩ = some (.int .i64 3)) (ht : w.cell? ⟨a1, 3, none⟩ = some (.slice (some ⟨tb, 0, none⟩) 2 2)) (htb : w.cell? ⟨tb, 0, none⟩ = some (.string sEs))
    (o3 : One w a3 x3) (z0 z1 z2 z3 : Value) (o4 : BoxAt w a4 #[z0, z1, z2, z3]) (h34 : a3 ≠ a4) :
    Calls Try.prog 30 #[.pointer (some ⟨a0, 0, none⟩), .pointer (some ⟨a1, 0, none⟩), .pointer (some ⟨a2, 0, none⟩), .pointer (some ⟨a3, 0, none⟩), .pointer (some ⟨a4, 0, none⟩)] w fun e w' =>
      e = .returned (.tuple #[]) ∧ One w' a3 (.string sEs) ∧ BoxAt w' a4 #[.string sTabl, .int .i64 4, .int .i64 4, .int .i64 4] ∧ w.heap.size ≤ w'.heap.size ∧ (∀ k, k < w.heap.size → k ≠ a3 → k ≠ a4 → w'.heap[k]? = w.heap[k]?) ∧ w'.os = w.os ∧ w'.tape = w.tape ∧ w'.output = w.output := by
  have e0 : w.cell? ⟨a0, 0, none⟩ = some (.string sTables) := hs 0 _ rfl
  have e1 : w.cell? ⟨a0, 1, none⟩ = some (.int .i64 6) := hs 1 _ rfl
  have e2 : w.cell? ⟨a0, 2, none⟩ = some (.int .i64 6) := hs 2 _ rfl
  have e3 : w.cell? ⟨a0, 3, none⟩ = some (.int .i64 6) := hs 3 _ rfl
  clear hs
  have l3 := o3.lt
  have l4 : a4 < w.heap.size := (Array.getElem?_eq_some_iff.1 (show w.heap[a4]? = _ from o4)).1
  have O3 := Lib.hid o3
  have O4 := Lib.hid o4
  clear o3 o4
  have hlen : (rsTables).length = 6 := rfl
  go_enter Try.func30, Try.ntmps30
  go_wp2_with fail
  refine (word_of sTables rsTables runes_tables 6 6 6 w).mono ?_
  rintro x w1 ⟨p, b, cap, rfl, hw, hr, hcap, hmax, hpb, hp, hb, hb1⟩
  rw [hlen] at hcap hw
  have k1 := belowRow hb1 hk
  have k2 := belowRow hb1 ht
  have k3 := belowRow hb1 htb
  have F := Lib.hid (fun tcap => remove_first p b cap tb tcap w1 hw hr k3 hpb hcap hmax)
  have q3 := O3.out.below hb1
  have q4 := O4.out.below hb1
  have Q3 := Lib.hid q3
  have Q4 := Lib.hid q4
  have HB1 := Lib.hid hb1
  have hsz1 := hb1.size
  clear e0 e1 e2 e3 hk ht htb hw hr k3 q3 q4 hb1
  go_wp2_with fail
  refine (F.out 2).mono ?_
  rintro x w2 ⟨rfl, hw2, hr2, hb2⟩
  have hb2' := hb2 w.heap.size hp hsz1
  have r3 : One w2 a3 x3 := ⟨by rw [hb2'.cell (p := ⟨a3, 0, none⟩) l3]; exact Q3.out.cell, by rw [hb2'.frozen (p := ⟨a3, 0, none⟩) l3]; exact Q3.out.free⟩
  have r4 : BoxAt w2 a4 #[z0, z1, z2, z3] := by have h := Q4.out; unfold BoxAt at h ⊢; rw [hb2'.block _ l4]; exact h
  have c3 := r3.cell
  have f3 := r3.free
  have R3 := Lib.hid (r3.set (.string sEs))
  have R4 := Lib.hid (r4.other (c := a3) (j := 0) (Ne.symm h34) (.string sEs))
  have HB2 := Lib.hid (HB1.out.trans hb2')
  have hsz2 := hb2'.size
  have HW2 := Lib.hid (hw2.other (c := a3) (j := 0) (by omega) (.string sEs))
  have HR2 := Lib.hid ((hr2.take 4).other (c := a3) (j := 0) (by omega) (.string sEs))
  clear r3 r4 hb2 hb2' hw2 hr2 k1 k2
  go_wp2_with fail
  have hh3 : ∀ k, k ≠ a3 → (w2.setCell ⟨a3, 0, none⟩ (.string sEs)).heap[k]? = w2.heap[k]? := fun k hk => Below.heap_setCell _ _ _ _ (by simpa using hk)
  have hs3 : (w2.setCell ⟨a3, 0, none⟩ (.string sEs)).heap.size = w2.heap.size := by simp [World.setCell]
  have ho3 : (w2.setCell ⟨a3, 0, none⟩ (.string sEs)).os = w2.os ∧ (w2.setCell ⟨a3, 0, none⟩ (.string sEs)).tape = w2.tape ∧ (w2.setCell ⟨a3, 0, none⟩ (.string sEs)).output = w2.output := ⟨rfl, rfl, rfl⟩
  have HH3 := Lib.hid hh3
  have HO3 := Lib.hid ho3
  clear hh3 ho3 c3 f3
  generalize w2.setCell ⟨a3, 0, none⟩ (.string sEs) = w3 at *
  refine (snow_of p b cap (rsTables.take 4) 4 4 4 w3 HW2.out HR2.out).mono ?_
  rintro x w4 ⟨rfl, hb4⟩
  have hsz4 := hb4.size
  have s3 := Lib.hid (R3.out.below hb4)
  have s4 := R4.out.below hb4
  have S4 := Lib.hid (s4.set4 (.string sTabl) (.int .i64 4) (.int .i64 4) (.int .i64 4))
  have k0 : w4.cell? ⟨a4, 0, none⟩ = some z0 := s4.row 0 _ rfl
  have k1 : w4.cell? ⟨a4, 1, none⟩ = some z1 := s4.row 1 _ rfl
  have k2 : w4.cell? ⟨a4, 2, none⟩ = some z2 := s4.row 2 _ rfl
  have k3 : w4.cell? ⟨a4, 3, none⟩ = some z3 := s4.row 3 _ rfl
  have fz : ∀ i, w4.frozen? ⟨a4, i, none⟩ = false := s4.free
  have HB4 := Lib.hid hb4
  have hbt : runesBytes (rsTables.take 4) = sTabl := bytes_tabl
  rw [hbt]
  clear s4 hb4 F
  unfold snowV
  go_wp2
  go_end0
  change _ ∧ One (set4 w4 a4 (.string sTabl) (.int .i64 4) (.int .i64 4) (.int .i64 4)) _ _ ∧ BoxAt (set4 w4 a4 (.string sTabl) (.int .i64 4) (.int .i64 4) (.int .i64 4)) _ _ ∧ _
  have hs5 : (set4 w4 a4 (.string sTabl) (.int .i64 4) (.int .i64 4) (.int .i64 4)).heap.size = w4.heap.size := by simp [Go.Proofs.Ytaohmmpfiehniaa.set4, World.setCell]
  refine ⟨rfl, (((s3.out.other h34 _).other h34 _).other h34 _).other h34 _, S4.out, ?_, ?_, ?_⟩
  · show _ ≤ (set4 w4 a4 (.string sTabl) (.int .i64 4) (.int .i64 4) (.int .i64 4)).heap.size
    rw [hs5]; omega
  · intro k hk h3 h4
    show (set4 w4 a4 (.string sTabl) (.int .i64 4) (.int .i64 4) (.int .i64 4)).heap[k]? = _
    rw [set4_heap _ _ _ _ _ _ _ h4, HB4.out.block k (by omega), HH3.out k h3, HB2.out.block k hk]
  · exact ⟨HB4.out.os.trans (HO3.out.1.trans HB2.out.os), HB4.out.tape.trans (HO3.out.2.1.trans HB2.out.tape), HB4.out.output.trans (HO3.out.2.2.trans HB2.out.output)⟩
end Go.Proofs.Ytaohmmpfiehniaa
