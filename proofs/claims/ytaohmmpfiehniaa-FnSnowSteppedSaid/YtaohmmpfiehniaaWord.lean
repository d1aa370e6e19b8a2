/- The contracts of (impl.Snow).word, resetR1R2, RemoveLastNRunes, HasSuffixRunesIn, RuneCountInString: the last ones at the numbers that snowAlive asks. -/
import Derived.Test.YtaohmmpfiehniaaUtf
import Derived.LoopN
set_option linter.unusedVariables false
set_option linter.unusedSimpArgs false
namespace Go.Proofs.Ytaohmmpfiehniaa
open Go.RowKit

theorem WordAt.set {w : World} {p : Nat} {cs : Array Value} (h : WordAt w p cs) (i : Nat) (y : Value) : WordAt (w.setCell ⟨p, i, none⟩ y) p (cs.setIfInBounds i y) := by
  unfold WordAt at h ⊢
  have hlt : p < w.heap.size := (Array.getElem?_eq_some_iff.1 h).1
  simp only [World.setCell]
  rw [Array.getElem?_modify]
  simp [h]

abbrev sEs : ByteArray := ⟨#[101, 115]⟩
theorem runes_es : runesOf sEs = [101, 115] := by kernel_rfl

set_option maxHeartbeats 1000000 in
theorem word_of (s : ByteArray) (rs : List Int) (h : Runes s rs) (r1 r2 rv : Int) (w : World) :
    Calls Try.prog 31 #[snowV s r1 r2 rv] w fun x w' => ∃ p b cap, x = .returned (.pointer (some ⟨p, 0, none⟩)) ∧ WordAt w' p (wordRow b rs.length cap r1 r2 rv) ∧ RunesAt w' b rs ∧ rs.length ≤ cap ∧ cap ≤ maxLen ∧ p ≠ b ∧ w.heap.size ≤ p ∧ w.heap.size ≤ b ∧ Below w.heap.size w w' := by
  have hb0 : Below w.heap.size w (w.alloc (.cells #[.string s, .int .i64 r1, .int .i64 r2, .int .i64 rv] 27)) := (Below.refl _ _).alloc (Nat.le_refl _) _
  have hr0 := RowAt.new w #[.string s, .int .i64 r1, .int .i64 r2, .int .i64 rv] 27
  have hz0 : (w.alloc (.cells #[.string s, .int .i64 r1, .int .i64 r2, .int .i64 rv] 27)).heap.size = w.heap.size + 1 := by simp
  unfold snowV
  go_enter Try.func31, Try.ntmps31
  go_wp2_with fail
  generalize w.alloc (.cells #[.string s, .int .i64 r1, .int .i64 r2, .int .i64 rv] 27) = W0 at *
  refine (new_word s rs h _).mono ?_
  rintro x w1 ⟨p, b, cap, rfl, hw, hr, hc1, hc2, hpb, hp, hb', hb1⟩
  have R := hr0.below hb1
  have e1 : w1.cell? ⟨w.heap.size, 1, none⟩ = some (.int .i64 r1) := R 1 _ rfl
  have e2 : w1.cell? ⟨w.heap.size, 2, none⟩ = some (.int .i64 r2) := R 2 _ rfl
  have e3 : w1.cell? ⟨w.heap.size, 3, none⟩ = some (.int .i64 rv) := R 3 _ rfl
  have k1 : w1.cell? ⟨p, 1, none⟩ = some (.int .i64 rs.length) := hw.row 1 _ rfl
  have k2 : w1.cell? ⟨p, 2, none⟩ = some (.int .i64 rs.length) := hw.row 2 _ rfl
  have k3 : w1.cell? ⟨p, 3, none⟩ = some (.int .i64 rs.length) := hw.row 3 _ rfl
  have fz : ∀ i, w1.frozen? ⟨p, i, none⟩ = false := hw.free
  have hne : p ≠ w.heap.size := by omega
  have HW := Lib.hid hw
  have HR := Lib.hid hr
  have HB := Lib.hid (hb0.trans (hb1.mono hb0.size))
  clear hw hr hb0 hb1 R hr0 h
  obtain ⟨A, hA⟩ : ∃ A, w.heap.size = A := ⟨_, rfl⟩
  rw [hA] at e1 e2 e3 hne hz0 ⊢
  go_wp2_with fail
  go_region_held3 (fun w' => w'.cell? ⟨A, 1, none⟩ = some (.int .i64 r1) ∧ w'.cell? ⟨A, 2, none⟩ = some (.int .i64 r2) ∧ w'.cell? ⟨A, 3, none⟩ = some (.int .i64 rv)) (go_keep) (first | fail)
  have hw4 : WordAt ((((w1.setCell ⟨p, 1, none⟩ (.int .i64 r1)).setCell ⟨p, 2, none⟩ (.int .i64 r2)).setCell ⟨p, 3, none⟩ (.int .i64 rv)).drew) p (wordRow b rs.length cap r1 r2 rv) := by
    have := ((HW.out.set 1 (.int .i64 r1)).set 2 (.int .i64 r2)).set 3 (.int .i64 rv)
    have e : ((((wordRow b rs.length cap rs.length rs.length rs.length).setIfInBounds 1 (.int .i64 r1)).setIfInBounds 2 (.int .i64 r2)).setIfInBounds 3 (.int .i64 rv)) = wordRow b rs.length cap r1 r2 rv := rfl
    rw [e] at this
    exact this
  have hr4 : RunesAt ((((w1.setCell ⟨p, 1, none⟩ (.int .i64 r1)).setCell ⟨p, 2, none⟩ (.int .i64 r2)).setCell ⟨p, 3, none⟩ (.int .i64 rv)).drew) b rs :=
    fun i hi => cell_other (Ne.symm hpb) (cell_other (Ne.symm hpb) (cell_other (Ne.symm hpb) (HR.out i hi)))
  have hb4 : Below w.heap.size w ((((w1.setCell ⟨p, 1, none⟩ (.int .i64 r1)).setCell ⟨p, 2, none⟩ (.int .i64 r2)).setCell ⟨p, 3, none⟩ (.int .i64 rv)).drew) :=
    below_drewN (((HB.out.setCell (p := ⟨p, 1, none⟩) (by simp; omega) _).setCell (p := ⟨p, 2, none⟩) (by simp; omega) _).setCell (p := ⟨p, 3, none⟩) (by simp; omega) _) 1
  generalize ((((w1.setCell ⟨p, 1, none⟩ (.int .i64 r1)).setCell ⟨p, 2, none⟩ (.int .i64 r2)).setCell ⟨p, 3, none⟩ (.int .i64 rv)).drew) = W4 at *
  have HW4 := Lib.hid hw4
  have HR4 := Lib.hid hr4
  have HB4 := Lib.hid hb4
  clear hw4 hr4 hb4 e1 e2 e3 k1 k2 k3 fz
  go_wp2
  go_ret
  exact ⟨p, b, cap, rfl, HW4.out, HR4.out, hc1, hc2, hpb, by omega, by omega, HB4.out⟩

/-- The runes of a word cut short: they are told by their first ones. -/
theorem RunesAt.take {w : World} {b : Nat} {rs : List Int} (h : RunesAt w b rs) (n : Nat) : RunesAt w b (rs.take n) := by
  intro i hi
  have hi' : i < rs.length := by rw [List.length_take] at hi; omega
  have hin : i < n := by rw [List.length_take] at hi; omega
  rw [h i hi']
  simp [List.getD, hi', hin]

abbrev rsTables : List Int := [116, 97, 98, 108, 101, 115]
set_option maxHeartbeats 1000000 in
theorem has_es (p b cap c ccap : Nat) (w : World) (h : WordAt w p (wordRow b 6 cap 6 6 6)) (hr : RunesAt w b rsTables) (hc : RunesAt w c [101, 115]) :
    Calls Try.prog 44 #[.pointer (some ⟨p, 0, none⟩), .int .i64 0, .int .i64 6, .slice (some ⟨c, 0, none⟩) 2 ccap] w fun x w' => x = .returned (.bool true) ∧ ∃ d, w' = w.drewN d := by
  have c0 : w.cell? ⟨p, 0, none⟩ = some (.slice (some ⟨b, 0, none⟩) 6 cap) := h.row 0 _ rfl
  have t4 : w.cell? ⟨b, 4, none⟩ = some (.int .i32 101) := hr 4 (by decide)
  have t5 : w.cell? ⟨b, 5, none⟩ = some (.int .i32 115) := hr 5 (by decide)
  have s0 : w.cell? ⟨c, 0, none⟩ = some (.int .i32 101) := hc 0 (by decide)
  have s1 : w.cell? ⟨c, 1, none⟩ = some (.int .i32 115) := hc 1 (by decide)
  clear h hr hc
  go_enter Try.func44, Try.ntmps44
  go_wp2
  refine wp_loop_rounds 3 ?_
  simp only [rounds_succ]
  go_wp2_with fail
  go_quiet (fail)
  go_wp2_with fail
  simp only [rounds_succ]
  go_wp2_with fail
  go_quiet (fail)
  go_wp2_with fail
  simp only [rounds_succ]
  go_wp2
  go_ret
  exact ⟨rfl, _, rfl⟩

set_option maxHeartbeats 1000000 in
theorem reset_tabl (p b cap : Nat) (w : World) (h : WordAt w p (wordRow b 4 cap 6 6 6)) (hp : p < w.heap.size) :
    Calls Try.prog 58 #[.pointer (some ⟨p, 0, none⟩)] w fun x w' => x = .returned (.tuple #[]) ∧ WordAt w' p (wordRow b 4 cap 4 4 4) ∧ w' = ((w.setCell ⟨p, 1, none⟩ (.int .i64 4)).setCell ⟨p, 2, none⟩ (.int .i64 4)).setCell ⟨p, 3, none⟩ (.int .i64 4) := by
  have c0 : w.cell? ⟨p, 0, none⟩ = some (.slice (some ⟨b, 0, none⟩) 4 cap) := h.row 0 _ rfl
  have c1 : w.cell? ⟨p, 1, none⟩ = some (.int .i64 6) := h.row 1 _ rfl
  have c2 : w.cell? ⟨p, 2, none⟩ = some (.int .i64 6) := h.row 2 _ rfl
  have c3 : w.cell? ⟨p, 3, none⟩ = some (.int .i64 6) := h.row 3 _ rfl
  have fz : ∀ i, w.frozen? ⟨p, i, none⟩ = false := h.free
  have H := Lib.hid (((h.set 1 (.int .i64 4)).set 2 (.int .i64 4)).set 3 (.int .i64 4))
  clear h
  go_enter Try.func58, Try.ntmps58
  go_wp2
  go_end0
  refine ⟨rfl, ?_, rfl⟩
  have := H.out
  simpa [wordRow] using this

set_option maxHeartbeats 1000000 in
theorem remove_two (p b cap : Nat) (w : World) (h : WordAt w p (wordRow b 6 cap 6 6 6)) (hcap : 6 ≤ cap) (hmax : cap ≤ maxLen) :
    Calls Try.prog 32 #[.pointer (some ⟨p, 0, none⟩), .int .i64 2] w fun x w' => x = .returned (.tuple #[]) ∧ WordAt w' p (wordRow b 4 cap 4 4 4) ∧ ∃ d, w' = (((((w.drewN d).setCell ⟨p, 0, none⟩ (.slice (some ⟨b, 0, none⟩) 4 cap)).setCell ⟨p, 1, none⟩ (.int .i64 4)).setCell ⟨p, 2, none⟩ (.int .i64 4)).setCell ⟨p, 3, none⟩ (.int .i64 4)) := by
  unfold maxLen at hmax
  have c0 : w.cell? ⟨p, 0, none⟩ = some (.slice (some ⟨b, 0, none⟩) 6 cap) := h.row 0 _ rfl
  have fz : ∀ i, w.frozen? ⟨p, i, none⟩ = false := h.free
  have hlt : p < w.heap.size := (Array.getElem?_eq_some_iff.1 (show w.heap[p]? = _ from h)).1
  have H := Lib.hid ((show WordAt (w.drewN 1) p (wordRow b 6 cap 6 6 6) from h).set 0 (.slice (some ⟨b, 0, none⟩) 4 cap))
  clear h
  have hw4 : IntKind.i64.wrap 4 = 4 := by decide
  have hc4 : 4 ≤ cap := by omega
  have hc5 : (4 : Int) ≤ (cap : Int) := by omega
  have hc6 : ¬ (cap : Int) < 4 := by omega
  go_enter Try.func32, Try.ntmps32
  go_wp2_with fail
  go_still_tail 15, (by kernel_rfl)
  change wpList _ _ _ _ _ (w.drewN 1)
  have c0' : (w.drewN 1).cell? ⟨p, 0, none⟩ = some (.slice (some ⟨b, 0, none⟩) 6 cap) := c0
  have fz' : ∀ i, (w.drewN 1).frozen? ⟨p, i, none⟩ = false := fz
  go_wp2_with fail
  refine (reset_tabl p b cap _ ?_ ?_).mono ?_
  · have := H.out
    have e : (wordRow b 6 cap 6 6 6).setIfInBounds 0 (.slice (some ⟨b, 0, none⟩) 4 cap) = wordRow b 4 cap 6 6 6 := rfl
    rw [e] at this
    exact this
  · simp [World.setCell]; exact hlt
  · rintro x w' ⟨rfl, h4, rfl⟩
    have H4 := Lib.hid h4
    clear h4
    go_wp2
    go_end0
    exact ⟨rfl, H4.out, 1, rfl⟩
end Go.Proofs.Ytaohmmpfiehniaa
