/- A text's code points: the contracts of utf8.RuneCountInString and spec.Whole. -/
import Derived.Test.YtaohmmpfiehniaaNew
import Derived.Lib.OthersKept
import Derived.Lib.RuneCount
set_option linter.unusedVariables false
set_option linter.unusedSimpArgs false
namespace Go.Proofs.Ytaohmmpfiehniaa
open Go.RowKit

/-- The code points of a text from place pos on. -/
def rl (s : ByteArray) : Nat → Nat → List Int
  | 0, _ => []
  | f + 1, pos => if pos < s.size then ((Utf8.decode s pos).1 : Int) :: rl s f (pos + (Utf8.decode s pos).2) else []
def runesOf (s : ByteArray) : List Int := rl s s.size 0
theorem rl_length_le (s : ByteArray) : ∀ f pos, (rl s f pos).length ≤ f
  | 0, _ => by simp [rl]
  | f + 1, pos => by
    have ih := rl_length_le s f (pos + (Utf8.decode s pos).2)
    unfold rl; split
    · simp; omega
    · simp
theorem rl_end (s : ByteArray) (f pos : Nat) (h : ¬ pos < s.size) : rl s f pos = [] := by cases f <;> simp [rl, h]
theorem runesFrom_rl (s : ByteArray) : ∀ f pos (acc : Array Value), Conv.runesFrom s f pos acc = acc ++ ((rl s f pos).map (Value.int .i32)).toArray
  | 0, _, acc => by simp [Conv.runesFrom, rl]
  | f + 1, pos, acc => by
    unfold Conv.runesFrom rl
    split
    · show Conv.runesFrom s f (pos + (Utf8.decode s pos).2) (acc.push (.int .i32 ((Utf8.decode s pos).1 : Int))) = _
      rw [runesFrom_rl s f _ _]
      apply Array.ext'
      simp
    · simp
theorem runes_of (s : ByteArray) (h : s.size ≤ 70368744177664) : Runes s (runesOf s) := by
  refine ⟨?_, by have := rl_length_le s s.size 0; unfold runesOf; omega⟩
  rw [runesFrom_rl]; simp [runesOf]

theorem iterPos_of {w : World} {k : Nat} {s : ByteArray} {p : Nat} (h : w.heap[k]? = some (.stringIter s p)) : w.iterPos k = p := by simp [World.iterPos, h]

set_option maxHeartbeats 1000000 in
theorem count_runes (s : ByteArray) (hs : s.size ≤ 2147483647) (w : World) : Calls Try.prog 59 #[.string s] w fun x w' => x = .returned (.int .i64 (runesOf s).length) ∧ Below w.heap.size w w' := by
  go_enter Try.func59, Try.ntmps59
  go_wp2
  go_loopw [2] (fun v wr => ∃ (pos fuel n : Nat), wr.heap[w.heap.size]? = some (.stringIter s pos) ∧ v = .int .i64 n ∧ Below w.heap.size w wr ∧ n + (rl s fuel pos).length = (runesOf s).length ∧ s.size ≤ fuel + pos ∧ n ≤ pos) (fun _ wr => s.size - wr.iterPos w.heap.size)
  case atStart => exact ⟨0, s.size, 0, World.iter_heap w s 0, rfl, (Below.refl _ _).alloc (Nat.le_refl _) _, by simp [runesOf], by omega, by omega⟩
  case round =>
    obtain ⟨pos, fuel, n, hit, rfl, hb, hlen, hf, hn⟩ := hrel
    have hpos0 := iterPos_of hit
    by_cases hp : pos < s.size
    · have hnx : ∀ ty, (Instr.next (.pointer (some ⟨w.heap.size, 0, none⟩)) true ty).run Try.prog wr = _ := fun ty => Lib.run_next_any_at wr w.heap.size s pos ty hit hp
      have hwd := Lib.decode_width_pos s pos hp
      obtain ⟨fuel, rfl⟩ : ∃ f', fuel = f' + 1 := ⟨fuel - 1, by omega⟩
      have hit2 := Lib.iterAt_heap wr w.heap.size s pos (pos + (Utf8.decode s pos).2) hit
      have hb2 := Lib.below_iterAt hb (k := w.heap.size) (Nat.le_refl _) s (pos + (Utf8.decode s pos).2)
      have hl2 : n + 1 + (rl s fuel (pos + (Utf8.decode s pos).2)).length = (runesOf s).length := by rw [← hlen]; simp [rl, hp]; omega
      generalize wr.iterAt w.heap.size s (pos + (Utf8.decode s pos).2) = W1 at *
      have HB := Lib.hid hb2
      have HIT := Lib.hid hit2
      clear hit hb hb2 hit2
      go_wp2
      go_roundw
      case rel => exact ⟨_, fuel, n + 1, HIT.out, by push_cast; rfl, HB.out, hl2, by omega, by omega⟩
      case measure => rw [iterPos_of HIT.out, hpos0]; omega
    · have hnx : ∀ ty, (Instr.next (.pointer (some ⟨w.heap.size, 0, none⟩)) true ty).run Try.prog wr = _ := fun ty => Lib.run_next_end_at wr w.heap.size s pos ty hit hp
      have hz : n = (runesOf s).length := by rw [← hlen, rl_end s fuel pos hp]; simp
      have HB := Lib.hid hb
      clear hit hb
      go_wp2
      go_ret
      exact ⟨by rw [← hz]; rfl, HB.out⟩

/-- A text is whole, and has no more characters than so many. -/
def IsWhole (s : ByteArray) (most : Int) : Prop := (65533 : Int) ∉ runesOf s ∧ ((runesOf s).length : Int) ≤ most
instance (s : ByteArray) (most : Int) : Decidable (IsWhole s most) := by unfold IsWhole; infer_instance

set_option maxHeartbeats 1000000 in
theorem whole (s : ByteArray) (most : Int) (hs : s.size ≤ 2147483647) (w : World) : Calls Try.prog 8 #[.string s, .int .i64 most] w fun x w' => x = .returned (.bool (decide (IsWhole s most))) ∧ Below w.heap.size w w' := by
  go_enter Try.func8, Try.ntmps8
  go_wp2
  go_loopw [5] (fun v wr => ∃ (pos fuel n : Nat), wr.heap[w.heap.size]? = some (.stringIter s pos) ∧ v = .int .i64 n ∧ Below w.heap.size w wr ∧ n + (rl s fuel pos).length = (runesOf s).length ∧ ((65533 : Int) ∈ runesOf s ↔ (65533 : Int) ∈ rl s fuel pos) ∧ s.size ≤ fuel + pos ∧ n ≤ pos) (fun _ wr => s.size - wr.iterPos w.heap.size)
  case atStart => exact ⟨0, s.size, 0, World.iter_heap w s 0, rfl, (Below.refl _ _).alloc (Nat.le_refl _) _, by simp [runesOf], Iff.rfl, by omega, by omega⟩
  case round =>
    obtain ⟨pos, fuel, n, hit, rfl, hb, hlen, hmem, hf, hn⟩ := hrel
    have hpos0 := iterPos_of hit
    by_cases hp : pos < s.size
    · have hnx : ∀ ty, (Instr.next (.pointer (some ⟨w.heap.size, 0, none⟩)) true ty).run Try.prog wr = _ := fun ty => Lib.run_next_any_at wr w.heap.size s pos ty hit hp
      have hwd := Lib.decode_width_pos s pos hp
      obtain ⟨fuel, rfl⟩ : ∃ f', fuel = f' + 1 := ⟨fuel - 1, by omega⟩
      have hit2 := Lib.iterAt_heap wr w.heap.size s pos (pos + (Utf8.decode s pos).2) hit
      have hb2 := Lib.below_iterAt hb (k := w.heap.size) (Nat.le_refl _) s (pos + (Utf8.decode s pos).2)
      have hl2 : n + 1 + (rl s fuel (pos + (Utf8.decode s pos).2)).length = (runesOf s).length := by rw [← hlen]; simp [rl, hp]; omega
      have hm2 : (65533 : Int) ∈ runesOf s ↔ ((65533 : Int) = (Utf8.decode s pos).1 ∨ (65533 : Int) ∈ rl s fuel (pos + (Utf8.decode s pos).2)) := by rw [hmem]; simp [rl, hp]
      generalize wr.iterAt w.heap.size s (pos + (Utf8.decode s pos).2) = W1 at *
      have HB := Lib.hid hb2
      have HIT := Lib.hid hit2
      have HM := Lib.hid hm2
      have HL := Lib.hid hl2
      clear hit hb hb2 hit2 hmem hm2 hlen hl2
      by_cases hc : ((Utf8.decode s pos).1 : Int) = 65533
      · have hc' : (((Utf8.decode s pos).1 : Int) == 65533) = true := by simpa using hc
        have hfalse : decide (IsWhole s most) = false := by
          rw [decide_eq_false_iff_not]; intro h; exact h.1 (HM.out.2 (Or.inl hc.symm))
        clear hc
        have HF := Lib.hid hfalse
        clear hfalse
        go_wp2
        go_ret
        exact ⟨by rw [HF.out]; rfl, HB.out⟩
      · have hc' : (((Utf8.decode s pos).1 : Int) == 65533) = false := by simpa using hc
        go_wp2
        go_roundw
        case rel => exact ⟨_, fuel, n + 1, HIT.out, by push_cast; rfl, HB.out, HL.out, ⟨fun h => (HM.out.1 h).resolve_left (fun e => hc e.symm), fun h => HM.out.2 (Or.inr h)⟩, by omega, by omega⟩
        case measure => rw [iterPos_of HIT.out, hpos0]; omega
    · have hnx : ∀ ty, (Instr.next (.pointer (some ⟨w.heap.size, 0, none⟩)) true ty).run Try.prog wr = _ := fun ty => Lib.run_next_end_at wr w.heap.size s pos ty hit hp
      have hz : n = (runesOf s).length := by rw [← hlen, rl_end s fuel pos hp]; simp
      have hw : decide (IsWhole s most) = decide ((n : Int) ≤ most) := by
        rw [decide_eq_decide]; unfold IsWhole; rw [hmem, rl_end s fuel pos hp, ← hz]; simp
      have HB := Lib.hid hb
      have HW := Lib.hid hw
      clear hit hb hmem hlen hw
      go_wp2
      go_ret
      exact ⟨by rw [HW.out, hz]; rfl, HB.out⟩
end Go.Proofs.Ytaohmmpfiehniaa
