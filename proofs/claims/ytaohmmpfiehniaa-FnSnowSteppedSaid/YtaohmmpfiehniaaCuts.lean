/- The contracts of resetR1R2 and RemoveLastNRunes in general; RemoveFirstSuffix, .In, .IfIn. -/
import Derived.Test.YtaohmmpfiehniaaOwn
import Derived.Test.YtaohmmpfiehniaaBetween
set_option linter.unusedVariables false
set_option linter.unusedSimpArgs false
namespace Go.Proofs.Ytaohmmpfiehniaa
open Go Go.RowKit

/-- Nothing but one block has changed. -/
structure Touch (p : Nat) (w w' : World) : Prop where
  size : w'.heap.size = w.heap.size
  heap : ∀ k, k ≠ p → w'.heap[k]? = w.heap[k]?
  os : w'.os = w.os
  tape : w'.tape = w.tape
  output : w'.output = w.output
theorem Touch.refl (p : Nat) (w : World) : Touch p w w := ⟨rfl, fun _ _ => rfl, rfl, rfl, rfl⟩
theorem Touch.drewN {p : Nat} {w w' : World} (h : Touch p w w') (n : Nat) : Touch p w (w'.drewN n) := ⟨h.size, h.heap, h.os, h.tape, h.output⟩
theorem Touch.set {p : Nat} {w w' : World} (h : Touch p w w') (i : Nat) (y : Value) : Touch p w (w'.setCell ⟨p, i, none⟩ y) :=
  ⟨by rw [← h.size]; simp [World.setCell], fun k hk => by rw [Below.heap_setCell _ _ _ _ (by simpa using hk)]; exact h.heap k hk, h.os, h.tape, h.output⟩
theorem Touch.trans {p : Nat} {w w1 w2 : World} (h : Touch p w w1) (h2 : Touch p w1 w2) : Touch p w w2 :=
  ⟨h2.size.trans h.size, fun k hk => (h2.heap k hk).trans (h.heap k hk), h2.os.trans h.os, h2.tape.trans h.tape, h2.output.trans h.output⟩
theorem Touch.below {p B : Nat} {w w' : World} (h : Touch p w w') (hp : B ≤ p) (hB : B ≤ w.heap.size) : Below B w w' := ⟨h.os, h.tape, h.output, Nat.le_of_eq h.size.symm, fun k hk => h.heap k (by omega)⟩
theorem RunesOwn.touch {p b cap : Nat} {rs : List Int} {w w' : World} (h : RunesOwn w b cap rs) (ht : Touch p w w') (hn : b ≠ p) : RunesOwn w' b cap rs := by
  obtain ⟨cur, h1, h2, h3⟩ := h.blk
  exact ⟨⟨cur, by rw [ht.heap b hn]; exact h1, h2, h3⟩, h.le, h.max⟩

/-- A region's beginning that lies no later than the word's end. -/
def lim (r : Int) (n : Nat) : Int := if decide ((n : Int) < r) = true then n else r
theorem lim_le {r : Int} {n : Nat} (h : r ≤ n) : lim r n = r := by
  unfold lim; rw [if_neg]; rw [decide_eq_true_eq]; omega

set_option maxHeartbeats 2000000 in
theorem reset_word (p b n cap : Nat) (r1 r2 rv : Int) (w : World) (h : WordAt w p (wordRow b n cap r1 r2 rv)) :
    Calls Try.prog 58 #[.pointer (some ⟨p, 0, none⟩)] w fun x w' => x = .returned (.tuple #[]) ∧ WordAt w' p (wordRow b n cap (lim r1 n) (lim r2 n) (lim rv n)) ∧ Touch p w w' := by
  have c0 : w.cell? ⟨p, 0, none⟩ = some (.slice (some ⟨b, 0, none⟩) n cap) := h.row 0 _ rfl
  have c1 : w.cell? ⟨p, 1, none⟩ = some (.int .i64 r1) := h.row 1 _ rfl
  have c2 : w.cell? ⟨p, 2, none⟩ = some (.int .i64 r2) := h.row 2 _ rfl
  have c3 : w.cell? ⟨p, 3, none⟩ = some (.int .i64 rv) := h.row 3 _ rfl
  have fz : ∀ i, w.frozen? ⟨p, i, none⟩ = false := h.free
  have H := Lib.hid h
  unfold lim
  clear h
  cases h1 : decide ((n : Int) < r1) <;> cases h2 : decide ((n : Int) < r2) <;> cases h3 : decide ((n : Int) < rv)
  all_goals
    go_enter Try.func58, Try.ntmps58
    go_wp2
    go_end0
  · exact ⟨rfl, H.out, Touch.refl _ _⟩
  · exact ⟨rfl, H.out.set 3 _, (Touch.refl _ _).set _ _⟩
  · exact ⟨rfl, H.out.set 2 _, (Touch.refl _ _).set _ _⟩
  · exact ⟨rfl, (H.out.set 2 (.int .i64 n)).set 3 _, ((Touch.refl _ _).set _ _).set _ _⟩
  · exact ⟨rfl, H.out.set 1 _, (Touch.refl _ _).set _ _⟩
  · exact ⟨rfl, (H.out.set 1 (.int .i64 n)).set 3 _, ((Touch.refl _ _).set _ _).set _ _⟩
  · exact ⟨rfl, (H.out.set 1 (.int .i64 n)).set 2 _, ((Touch.refl _ _).set _ _).set _ _⟩
  · exact ⟨rfl, ((H.out.set 1 (.int .i64 n)).set 2 (.int .i64 n)).set 3 _, (((Touch.refl _ _).set _ _).set _ _).set _ _⟩

set_option maxHeartbeats 2000000 in
theorem remove_n (p b n cap m : Nat) (hm : m ≤ n) (hn : n ≤ cap) (hmax : cap ≤ maxLen) (r1 r2 rv : Int) (w : World) (h : WordAt w p (wordRow b n cap r1 r2 rv)) :
    Calls Try.prog 32 #[.pointer (some ⟨p, 0, none⟩), .int .i64 m] w fun x w' => x = .returned (.tuple #[]) ∧ WordAt w' p (wordRow b (n - m) cap (lim r1 (n - m : Nat)) (lim r2 (n - m : Nat)) (lim rv (n - m : Nat))) ∧ Touch p w w' := by
  unfold maxLen at hmax
  have c0 : w.cell? ⟨p, 0, none⟩ = some (.slice (some ⟨b, 0, none⟩) n cap) := h.row 0 _ rfl
  have fz : ∀ i, w.frozen? ⟨p, i, none⟩ = false := h.free
  have hlt : p < w.heap.size := (Array.getElem?_eq_some_iff.1 (show w.heap[p]? = _ from h)).1
  have H := Lib.hid ((show WordAt (w.drewN 1) p (wordRow b n cap r1 r2 rv) from h).set 0 (.slice (some ⟨b, 0, none⟩) (n - m) cap))
  clear h
  have hw4 : IntKind.i64.wrap ((n : Int) - (m : Int)) = ((n - m : Nat) : Int) := by rw [Int.ofNat_sub hm]; simp [IntKind.wrap, IntKind.min, IntKind.max, IntKind.signed, IntKind.bits]; omega
  have hc4 : n - m ≤ cap := by omega
  have F := Lib.hid (fun w h => reset_word p b (n - m) cap r1 r2 rv w h)
  clear hm
  generalize n - m = q at *
  go_enter Try.func32, Try.ntmps32
  go_wp2_with fail
  go_still_tail 15, (by kernel_rfl)
  change wpList _ _ _ _ _ (w.drewN 1)
  have c0' : (w.drewN 1).cell? ⟨p, 0, none⟩ = some (.slice (some ⟨b, 0, none⟩) n cap) := c0
  have fz' : ∀ i, (w.drewN 1).frozen? ⟨p, i, none⟩ = false := fz
  go_wp2_with fail
  refine (F.out _ ?_).mono ?_
  · have := H.out
    have e : (wordRow b n cap r1 r2 rv).setIfInBounds 0 (.slice (some ⟨b, 0, none⟩) q cap) = wordRow b q cap r1 r2 rv := rfl
    rw [e] at this
    exact this
  · rintro x w' ⟨rfl, h4, ht⟩
    have H4 := Lib.hid h4
    have HT := Lib.hid ((((Touch.refl p w).drewN 1).set _ _).trans ht)
    clear h4 ht
    go_wp2
    go_end0
    exact ⟨rfl, H4.out, HT.out⟩
end Go.Proofs.Ytaohmmpfiehniaa
