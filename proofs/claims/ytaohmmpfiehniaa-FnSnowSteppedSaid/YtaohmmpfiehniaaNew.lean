/- The contracts of snowballword.New, String, impl.snow and impl.SnowNew. -/
import Derived.Test.YtaohmmpfiehniaaSafe
import Derived.Test.YtaohmmpfiehniaaMem
import Derived.Laws.IdiomStrings
import Derived.Laws.AppendOwn
import Derived.Laws.Cover4
import Derived.Deep.RegionHeld3
import Derived.Deep.RegionWith
import Derived.Deep.QuietTactic
import Derived.BigQuiet
import Derived.StillTailTactics
set_option linter.unusedVariables false
set_option linter.unusedSimpArgs false
namespace Go.Proofs.Ytaohmmpfiehniaa
open Go.RowKit

/-- A text has these code points. -/
def Runes (s : ByteArray) (rs : List Int) : Prop := Conv.runesFrom s s.size 0 #[] = (rs.map (Value.int .i32)).toArray ∧ rs.length ≤ 70368744177664

/-- Code points lie in a block. -/
def RunesAt (w : World) (b : Nat) (rs : List Int) : Prop := ∀ i, i < rs.length → w.cell? ⟨b, i, none⟩ = some (.int .i32 (rs.getD i 0))
theorem RunesAt.below {w w1 : World} {b : Nat} {rs : List Int} (h : RunesAt w b rs) (hb : Below w.heap.size w w1) : RunesAt w1 b rs := fun i hi => belowRow hb (h i hi)

theorem conv_runes (s : ByteArray) (rs : List Int) (h : Runes s rs) (w : World) :
    ∃ cap W, (convert 9 24 (.string s)).run Try.prog w = .ok (.slice (some ⟨w.heap.size, 0, none⟩) rs.length cap) W ∧ W.heap.size = w.heap.size + 1 ∧ Below w.heap.size w W ∧ RunesAt W w.heap.size rs ∧ rs.length ≤ cap ∧ cap ≤ maxLen := by
  have hsz : (Conv.runesFrom s s.size 0 #[]).size = rs.length := by rw [h.1]; simp
  have hk := run_runes_of_string (P := Try.prog) w 9 24 21 s Try.underlying9 Try.underlying24 Try.underlying21 (by rw [hsz]; exact h.2)
  rw [hsz, h.1] at hk
  refine ⟨_, _, hk, ?_, ?_, ?_, grownCap_ge _ _ _ _, grownCap_le_maxLen _ _ _ _ (by have := h.2; simp [maxLen]; omega)⟩
  · simp
  · exact (below_drewN (Below.refl _ _) 1).alloc (Nat.le_refl _) _
  · intro i hi
    have hr := RowAt.new w.drew ((rs.map (Value.int .i32)).toArray ++ Array.replicate (grownCap w rs.length 0 21 - rs.length) (.int .i32 0)) 21
    have := hr i (.int .i32 (rs.getD i 0)) (by rw [Array.getElem?_append_left (by simpa using hi)]; simp [List.getD, hi])
    exact this

def wordRow (b n cap : Nat) (r1 r2 rv : Int) : Array Value := #[.slice (some ⟨b, 0, none⟩) n cap, .int .i64 r1, .int .i64 r2, .int .i64 rv]

/-- A word's block. -/
def WordAt (w : World) (p : Nat) (cs : Array Value) : Prop := w.heap[p]? = some (.cells cs 71 (0, 0))
theorem WordAt.below {w w1 : World} {p : Nat} {cs : Array Value} (h : WordAt w p cs) (hb : Below w.heap.size w w1) : WordAt w1 p cs := by
  unfold WordAt at h ⊢
  rw [hb.block p (by have := (Array.getElem?_eq_some_iff.1 h).1; exact this)]; exact h
theorem WordAt.row {w : World} {p : Nat} {cs : Array Value} (h : WordAt w p cs) : RowAt w p cs := by
  intro i x hx; unfold World.cell?; rw [show w.heap[(⟨p, i, none⟩ : Addr).block]? = _ from h]; simpa using hx
theorem WordAt.free {w : World} {p : Nat} {cs : Array Value} (h : WordAt w p cs) (i : Nat) : w.frozen? ⟨p, i, none⟩ = false := by
  unfold World.frozen?; rw [show w.heap[(⟨p, i, none⟩ : Addr).block]? = _ from h]; simp

theorem new_word (s : ByteArray) (rs : List Int) (h : Runes s rs) (w : World) :
    Calls Try.prog 28 #[.string s] w fun x w' => ∃ p b cap, x = .returned (.pointer (some ⟨p, 0, none⟩)) ∧ WordAt w' p (wordRow b rs.length cap rs.length rs.length rs.length) ∧ RunesAt w' b rs ∧ rs.length ≤ cap ∧ cap ≤ maxLen ∧ p ≠ b ∧ w.heap.size ≤ p ∧ w.heap.size ≤ b ∧ Below w.heap.size w w' := by
  obtain ⟨cap, W, hcv, hz, hb, hr, hc1, hc2⟩ := conv_runes s rs h w
  have HB := Lib.hid hb
  have HR := Lib.hid hr
  clear hb hr h
  go_enter Try.func28, Try.ntmps28
  go_wp2
  go_ret
  refine ⟨_, _, _, rfl, ?_, HR.out.below ((Below.refl _ _).alloc (Nat.le_refl _) _), hc1, hc2, by omega, by omega, by omega, HB.out.alloc (by omega) _⟩
  rw [← hz]; exact heap_alloc_new _ _

theorem text_of (p b cap : Nat) (rs : List Int) (r1 r2 rv : Int) (w : World) (h : WordAt w p (wordRow b rs.length cap r1 r2 rv)) (hr : RunesAt w b rs) :
    Calls Try.prog 56 #[.pointer (some ⟨p, 0, none⟩)] w fun x w' => x = .returned (.string (runesBytes rs)) ∧ w = w' := by
  have c0 : w.cell? ⟨p, 0, none⟩ = some (.slice (some ⟨b, 0, none⟩) rs.length cap) := h.row 0 _ rfl
  have hk := run_convert_runes (P := Try.prog) w 24 9 21 ⟨b, 0, none⟩ rs.length cap rs (Nat.le_refl _) Try.underlying24 Try.underlying21 Try.underlying9 (fun j hj => by
    rw [add_plain]; exact hr j hj)
  rw [List.take_length] at hk
  clear h hr
  go_enter Try.func56, Try.ntmps56
  go_wp2
  go_ret
  exact ⟨rfl, rfl⟩

def snowV (s : ByteArray) (r1 r2 rv : Int) : Value := .agg #[.string s, .int .i64 r1, .int .i64 r2, .int .i64 rv]
set_option maxHeartbeats 1000000 in
theorem snow_of (p b cap : Nat) (rs : List Int) (r1 r2 rv : Int) (w : World) (h : WordAt w p (wordRow b rs.length cap r1 r2 rv)) (hr : RunesAt w b rs) :
    Calls Try.prog 27 #[.pointer (some ⟨p, 0, none⟩)] w fun x w' => x = .returned (snowV (runesBytes rs) r1 r2 rv) ∧ Below w.heap.size w w' := by
  have c1 : w.cell? ⟨p, 1, none⟩ = some (.int .i64 r1) := h.row 1 _ rfl
  have c2 : w.cell? ⟨p, 2, none⟩ = some (.int .i64 r2) := h.row 2 _ rfl
  have c3 : w.cell? ⟨p, 3, none⟩ = some (.int .i64 rv) := h.row 3 _ rfl
  have n1 := World.new_ne w _ c1
  have n2 := World.new_ne w _ c2
  have n3 := World.new_ne w _ c3
  have hb : Below w.heap.size w (w.alloc (.cells #[.string ⟨#[]⟩, .int .i64 0, .int .i64 0, .int .i64 0] 27)) := (Below.refl _ _).alloc (Nat.le_refl _) _
  have F := Lib.hid (text_of p b cap rs r1 r2 rv (w.alloc (.cells #[.string ⟨#[]⟩, .int .i64 0, .int .i64 0, .int .i64 0] 27)).drew (h.below (below_drewN hb 1)) (hr.below (below_drewN hb 1)))
  clear h hr
  go_enter Try.func27, Try.ntmps27
  go_wp2_with fail
  go_region_held3 (fun w' => w'.cell? ⟨p, 1, none⟩ = some (.int .i64 r1) ∧ w'.cell? ⟨p, 2, none⟩ = some (.int .i64 r2) ∧ w'.cell? ⟨p, 3, none⟩ = some (.int .i64 rv)) (go_keep)
    (first | (go_at_call 56; refine F.out.mono ?_; rintro x w1 ⟨rfl, rfl⟩))
  have HB := Lib.hid (below_drewN ((Below.refl w.heap.size w).alloc (Nat.le_refl _) (.cells #[.string (runesBytes rs), .int .i64 r1, .int .i64 r2, .int .i64 rv] 27)) 1)
  clear hb F
  go_wp2
  exact bodyPost_ret (v := snowV (runesBytes rs) r1 r2 rv) (by simp [results, Try.results27, go_sem, snowV]) rfl ⟨rfl, HB.out⟩

theorem snow_new (s : ByteArray) (rs : List Int) (h : Runes s rs) (w : World) :
    Calls Try.prog 11 #[.string s] w fun x w' => x = .returned (snowV (runesBytes rs) rs.length rs.length rs.length) ∧ Below w.heap.size w w' := by
  have hb0 : Below w.heap.size w (w.alloc (.cells #[.string ⟨#[]⟩, .int .i64 0, .int .i64 0, .int .i64 0] 27)) := (Below.refl _ _).alloc (Nat.le_refl _) _
  have hrow : (w.alloc (.cells #[.string ⟨#[]⟩, .int .i64 0, .int .i64 0, .int .i64 0] 27)).heap[w.heap.size]? = some (.cells #[.string ⟨#[]⟩, .int .i64 0, .int .i64 0, .int .i64 0] 27 (0, 0)) := heap_alloc_new _ _
  go_enter Try.func11, Try.ntmps11
  go_wp2_with fail
  refine (new_word s rs h _).mono ?_
  rintro x w1 ⟨p, b, cap, rfl, hw, hr, hc1, hc2, hpb, hp, hb', hb1⟩
  have hrow1 : w1.heap[w.heap.size]? = some (.cells #[.string ⟨#[]⟩, .int .i64 0, .int .i64 0, .int .i64 0] 27 (0, 0)) := by rw [hb1.block _ (by simp)]; exact hrow
  have hb2 := hb0.trans (hb1.mono hb0.size)
  have hlt : w.heap.size < w1.heap.size := (Array.getElem?_eq_some_iff.1 hrow1).1
  clear hrow hb0 hb1 hp hb' hpb hc1 hc2
  go_wp2_with fail
  refine (snow_of p b cap rs _ _ _ w1 hw hr).mono ?_
  rintro x w2 ⟨rfl, hb3⟩
  have hrow2 : w2.heap[w.heap.size]? = some (.cells #[.string ⟨#[]⟩, .int .i64 0, .int .i64 0, .int .i64 0] 27 (0, 0)) := by rw [hb3.block _ hlt]; exact hrow1
  have HB := Lib.hid (hb2.trans (hb3.mono hb2.size))
  have R : RowAt w2 w.heap.size #[.string ⟨#[]⟩, .int .i64 0, .int .i64 0, .int .i64 0] := by
    intro i x hx; unfold World.cell?; rw [show w2.heap[(⟨w.heap.size, i, none⟩ : Addr).block]? = _ from hrow2]; simpa using hx
  have k0 : w2.cell? ⟨w.heap.size, 0, none⟩ = some (.string ⟨#[]⟩) := R 0 _ rfl
  have k1 : w2.cell? ⟨w.heap.size, 1, none⟩ = some (.int .i64 0) := R 1 _ rfl
  have k2 : w2.cell? ⟨w.heap.size, 2, none⟩ = some (.int .i64 0) := R 2 _ rfl
  have k3 : w2.cell? ⟨w.heap.size, 3, none⟩ = some (.int .i64 0) := R 3 _ rfl
  have fz : ∀ i, w2.frozen? ⟨w.heap.size, i, none⟩ = false := fun i => by
    unfold World.frozen?; rw [show w2.heap[(⟨w.heap.size, i, none⟩ : Addr).block]? = _ from hrow2]; simp
  have R4 := set4_row R (.string (runesBytes rs)) (.int .i64 rs.length) (.int .i64 rs.length) (.int .i64 rs.length)
  have HB4 := Lib.hid (set4_below HB.out (Nat.le_refl _) (.string (runesBytes rs)) (.int .i64 rs.length) (.int .i64 rs.length) (.int .i64 rs.length))
  clear hw hr hb2 hb3 hrow1 R hrow2
  unfold snowV
  go_wp2
  change bodyPost _ _ _ _ _ (set4 w2 w.heap.size (.string (runesBytes rs)) (.int .i64 rs.length) (.int .i64 rs.length) (.int .i64 rs.length))
  generalize set4 w2 w.heap.size (.string (runesBytes rs)) (.int .i64 rs.length) (.int .i64 rs.length) (.int .i64 rs.length) = W at *
  have t0 : W.cell? ⟨w.heap.size, 0, none⟩ = some (.string (runesBytes rs)) := R4 0 _ rfl
  have t1 : W.cell? ⟨w.heap.size, 1, none⟩ = some (.int .i64 rs.length) := R4 1 _ rfl
  have t2 : W.cell? ⟨w.heap.size, 2, none⟩ = some (.int .i64 rs.length) := R4 2 _ rfl
  have t3 : W.cell? ⟨w.heap.size, 3, none⟩ = some (.int .i64 rs.length) := R4 3 _ rfl
  exact bodyPost_ret (v := snowV (runesBytes rs) rs.length rs.length rs.length) (by simp [results, Try.results11, go_sem, snowV, t0, t1, t2, t3]) rfl ⟨rfl, HB4.out⟩
end Go.Proofs.Ytaohmmpfiehniaa
