/- The contracts of spec.From and of the word's regions: R1, R2, RV as slices and as texts, and what fits into each. -/
import Derived.Test.YtaohmmpfiehniaaLawNew
set_option linter.unusedVariables false
set_option linter.unusedSimpArgs false
namespace Go.Proofs.Ytaohmmpfiehniaa
open Go.RowKit

theorem conv_tail (b k c : Nat) (rs : List Int) (w : World) (hr : RunesAt w b rs) (hk : k ≤ rs.length) : (convert 24 9 (.slice (some ⟨b, k, none⟩) (rs.length - k) c)).run Try.prog w = .ok (.string (runesBytes (rs.drop k))) w := by
  have := run_convert_runes (P := Try.prog) w 24 9 21 ⟨b, k, none⟩ (rs.drop k).length c (rs.drop k) (Nat.le_refl _) Try.underlying24 Try.underlying21 Try.underlying9 (fun j hj => by
    have h := hr (k + j) (by rw [List.length_drop] at hj; omega)
    have e : (⟨b, k, none⟩ : Addr).add j = ⟨b, k + j, none⟩ := by unfold Addr.add; split <;> simp_all
    rw [e, h]
    simp [List.getD])
  rw [List.take_length, List.length_drop] at this
  exact this
theorem conv_empty (b k c : Nat) (rs : List Int) (w : World) (hk : rs.length ≤ k) : (convert 24 9 (.slice (some ⟨b, 0, none⟩) (rs.length - k) c)).run Try.prog w = .ok (.string (runesBytes (rs.drop k))) w := by
  have := run_convert_runes (P := Try.prog) w 24 9 21 ⟨b, 0, none⟩ 0 c [] (Nat.le_refl _) Try.underlying24 Try.underlying21 Try.underlying9 (fun j hj => by simp at hj)
  rw [show rs.length - k = 0 by omega, List.drop_of_length_le hk]
  exact this
/-- What a slice from k on is: its address stays where nothing is left. -/
def tailV (b k n cap : Nat) : Value := if cap = k then .slice (some ⟨b, 0, none⟩) (n - k) 0 else .slice (some ⟨b, k, none⟩) (n - k) (cap - k)
theorem conv_tailV (b k cap : Nat) (rs : List Int) (w : World) (hr : RunesAt w b rs) (hk : k ≤ rs.length) (hc : rs.length ≤ cap) : (convert 24 9 (tailV b k rs.length cap)).run Try.prog w = .ok (.string (runesBytes (rs.drop k))) w := by
  unfold tailV
  split
  · exact conv_empty b k 0 rs w (by omega)
  · exact conv_tail b k _ rs w hr hk

theorem runesOf_small (s : ByteArray) (hs : s.size ≤ 2147483647) : (runesOf s).length ≤ 2147483647 := by have := rl_length_le s s.size 0; unfold runesOf; omega

theorem from_at (s : ByteArray) (rs : List Int) (hrs : runesOf s = rs) (k : Nat) (hs : s.size ≤ 2147483647) (hk : k ≤ rs.length) (w : World) : Calls Try.prog 26 #[.string s, .int .i64 k] w fun x w' => x = .returned (.string (runesBytes (rs.drop k))) ∧ Below w.heap.size w w' := by
  have hf := runes_fn s hs w
  have hn := runesOf_small s hs
  rw [hrs] at hf hn
  go_enter Try.func26, Try.ntmps26
  go_wp2_with fail
  refine hf.mono ?_
  rintro x w1 ⟨⟨b, cap, rfl, hr, hc1, hc2⟩, hb⟩
  have HB := Lib.hid hb
  unfold maxLen at hc2
  by_cases hck : cap = k
  · have hcv := conv_empty b k 0 rs w1 (by omega)
    clear hr hb hf hrs
    go_wp2
    go_ret
    exact ⟨rfl, HB.out⟩
  · have hcv := conv_tail b k (cap - k) rs w1 hr hk
    clear hr hb hf hrs
    go_wp2
    go_ret
    exact ⟨rfl, HB.out⟩

theorem slice_r1 (p b cap k : Nat) (r2 rv : Int) (rs : List Int) (w : World) (h : WordAt w p (wordRow b rs.length cap (k : Nat) r2 rv)) (hk : k ≤ rs.length) (hc1 : rs.length ≤ cap) (hc2 : cap ≤ maxLen) :
    Calls Try.prog 60 #[.pointer (some ⟨p, 0, none⟩)] w fun x w' => x = .returned (tailV b k rs.length cap) ∧ ∃ d, w' = w.drewN d := by
  unfold maxLen at hc2
  have c0 : w.cell? ⟨p, 0, none⟩ = some (.slice (some ⟨b, 0, none⟩) rs.length cap) := h.row 0 _ rfl
  have c1 : w.cell? ⟨p, 1, none⟩ = some (.int .i64 k) := h.row 1 _ rfl
  clear h
  generalize rs.length = n at *
  have hi1 : (0 : Int) ≤ (k : Int) := by omega
  have hi2 : (k : Int) ≤ (n : Int) := by omega
  have hi3 : (n : Int) ≤ (cap : Int) := by omega
  unfold tailV
  by_cases hck : cap = k
  · rw [if_pos hck]
    go_enter Try.func60, Try.ntmps60
    go_wp2_with fail
    go_quiet (fail)
    go_wp2
    go_ret
    exact ⟨rfl, _, rfl⟩
  · rw [if_neg hck]
    go_enter Try.func60, Try.ntmps60
    go_wp2_with fail
    go_quiet (fail)
    go_wp2
    go_ret
    exact ⟨rfl, _, rfl⟩

theorem text_r1 (p b cap k : Nat) (r2 rv : Int) (rs : List Int) (w : World) (h : WordAt w p (wordRow b rs.length cap (k : Nat) r2 rv)) (hr : RunesAt w b rs) (hk : k ≤ rs.length) (hc1 : rs.length ≤ cap) (hc2 : cap ≤ maxLen) :
    Calls Try.prog 50 #[.pointer (some ⟨p, 0, none⟩)] w fun x w' => x = .returned (.string (runesBytes (rs.drop k))) ∧ ∃ d, w' = w.drewN d := by
  have F := Lib.hid (slice_r1 p b cap k r2 rv rs w h hk hc1 hc2)
  have hcv : ∀ d, (convert 24 9 (tailV b k rs.length cap)).run Try.prog (w.drewN d) = .ok (.string (runesBytes (rs.drop k))) (w.drewN d) := fun d => conv_tailV b k cap rs (w.drewN d) hr hk hc1
  clear h hr
  go_enter Try.func50, Try.ntmps50
  go_wp2_with fail
  refine F.out.mono ?_
  rintro x w' ⟨rfl, d, rfl⟩
  generalize tailV b k rs.length cap = tv at *
  go_wp2
  go_ret
  exact ⟨rfl, d, rfl⟩

theorem fits_r1 (p b cap n : Nat) (x : Int) (hx : 0 ≤ x ∧ x ≤ 255) (r2 rv : Int) (k m : Int) (hm : (n : Int) - x = m) (hn : n ≤ 2147483647) (w : World) (h : WordAt w p (wordRow b n cap k r2 rv)) :
    Calls Try.prog 53 #[.pointer (some ⟨p, 0, none⟩), .int .i64 x] w fun y w' => y = .returned (.bool (decide (k ≤ m))) ∧ ∃ d, w' = w.drewN d := by
  have c0 : w.cell? ⟨p, 0, none⟩ = some (.slice (some ⟨b, 0, none⟩) n cap) := h.row 0 _ rfl
  have c1 : w.cell? ⟨p, 1, none⟩ = some (.int .i64 k) := h.row 1 _ rfl
  clear h
  have hw : IntKind.i64.wrap ((n : Int) - x) = m := by rw [← hm]; simp [IntKind.wrap, IntKind.min, IntKind.max, IntKind.signed, IntKind.bits]; omega
  clear hm hn hx
  go_enter Try.func53, Try.ntmps53
  go_wp2_with fail
  go_quiet (fail)
  go_wp2
  go_ret
  exact ⟨rfl, _, rfl⟩

theorem slice_r2 (p b cap k : Nat) (r1 rv : Int) (rs : List Int) (w : World) (h : WordAt w p (wordRow b rs.length cap r1 (k : Nat) rv)) (hk : k ≤ rs.length) (hc1 : rs.length ≤ cap) (hc2 : cap ≤ maxLen) :
    Calls Try.prog 61 #[.pointer (some ⟨p, 0, none⟩)] w fun x w' => x = .returned (tailV b k rs.length cap) ∧ ∃ d, w' = w.drewN d := by
  unfold maxLen at hc2
  have c0 : w.cell? ⟨p, 0, none⟩ = some (.slice (some ⟨b, 0, none⟩) rs.length cap) := h.row 0 _ rfl
  have c1 : w.cell? ⟨p, 2, none⟩ = some (.int .i64 k) := h.row 2 _ rfl
  clear h
  generalize rs.length = n at *
  have hi1 : (0 : Int) ≤ (k : Int) := by omega
  have hi2 : (k : Int) ≤ (n : Int) := by omega
  have hi3 : (n : Int) ≤ (cap : Int) := by omega
  unfold tailV
  by_cases hck : cap = k
  · rw [if_pos hck]
    go_enter Try.func61, Try.ntmps61
    go_wp2_with fail
    go_quiet (fail)
    go_wp2
    go_ret
    exact ⟨rfl, _, rfl⟩
  · rw [if_neg hck]
    go_enter Try.func61, Try.ntmps61
    go_wp2_with fail
    go_quiet (fail)
    go_wp2
    go_ret
    exact ⟨rfl, _, rfl⟩

theorem text_r2 (p b cap k : Nat) (r1 rv : Int) (rs : List Int) (w : World) (h : WordAt w p (wordRow b rs.length cap r1 (k : Nat) rv)) (hr : RunesAt w b rs) (hk : k ≤ rs.length) (hc1 : rs.length ≤ cap) (hc2 : cap ≤ maxLen) :
    Calls Try.prog 51 #[.pointer (some ⟨p, 0, none⟩)] w fun x w' => x = .returned (.string (runesBytes (rs.drop k))) ∧ ∃ d, w' = w.drewN d := by
  have F := Lib.hid (slice_r2 p b cap k r1 rv rs w h hk hc1 hc2)
  have hcv : ∀ d, (convert 24 9 (tailV b k rs.length cap)).run Try.prog (w.drewN d) = .ok (.string (runesBytes (rs.drop k))) (w.drewN d) := fun d => conv_tailV b k cap rs (w.drewN d) hr hk hc1
  clear h hr
  go_enter Try.func51, Try.ntmps51
  go_wp2_with fail
  refine F.out.mono ?_
  rintro x w' ⟨rfl, d, rfl⟩
  generalize tailV b k rs.length cap = tv at *
  go_wp2
  go_ret
  exact ⟨rfl, d, rfl⟩

theorem fits_r2 (p b cap n : Nat) (x : Int) (hx : 0 ≤ x ∧ x ≤ 255) (r1 rv : Int) (k m : Int) (hm : (n : Int) - x = m) (hn : n ≤ 2147483647) (w : World) (h : WordAt w p (wordRow b n cap r1 k rv)) :
    Calls Try.prog 54 #[.pointer (some ⟨p, 0, none⟩), .int .i64 x] w fun y w' => y = .returned (.bool (decide (k ≤ m))) ∧ ∃ d, w' = w.drewN d := by
  have c0 : w.cell? ⟨p, 0, none⟩ = some (.slice (some ⟨b, 0, none⟩) n cap) := h.row 0 _ rfl
  have c1 : w.cell? ⟨p, 2, none⟩ = some (.int .i64 k) := h.row 2 _ rfl
  clear h
  have hw : IntKind.i64.wrap ((n : Int) - x) = m := by rw [← hm]; simp [IntKind.wrap, IntKind.min, IntKind.max, IntKind.signed, IntKind.bits]; omega
  clear hm hn hx
  go_enter Try.func54, Try.ntmps54
  go_wp2_with fail
  go_quiet (fail)
  go_wp2
  go_ret
  exact ⟨rfl, _, rfl⟩

theorem slice_rv (p b cap k : Nat) (r1 r2 : Int) (rs : List Int) (w : World) (h : WordAt w p (wordRow b rs.length cap r1 r2 (k : Nat))) (hk : k ≤ rs.length) (hc1 : rs.length ≤ cap) (hc2 : cap ≤ maxLen) :
    Calls Try.prog 62 #[.pointer (some ⟨p, 0, none⟩)] w fun x w' => x = .returned (tailV b k rs.length cap) ∧ ∃ d, w' = w.drewN d := by
  unfold maxLen at hc2
  have c0 : w.cell? ⟨p, 0, none⟩ = some (.slice (some ⟨b, 0, none⟩) rs.length cap) := h.row 0 _ rfl
  have c1 : w.cell? ⟨p, 3, none⟩ = some (.int .i64 k) := h.row 3 _ rfl
  clear h
  generalize rs.length = n at *
  have hi1 : (0 : Int) ≤ (k : Int) := by omega
  have hi2 : (k : Int) ≤ (n : Int) := by omega
  have hi3 : (n : Int) ≤ (cap : Int) := by omega
  unfold tailV
  by_cases hck : cap = k
  · rw [if_pos hck]
    go_enter Try.func62, Try.ntmps62
    go_wp2_with fail
    go_quiet (fail)
    go_wp2
    go_ret
    exact ⟨rfl, _, rfl⟩
  · rw [if_neg hck]
    go_enter Try.func62, Try.ntmps62
    go_wp2_with fail
    go_quiet (fail)
    go_wp2
    go_ret
    exact ⟨rfl, _, rfl⟩

theorem text_rv (p b cap k : Nat) (r1 r2 : Int) (rs : List Int) (w : World) (h : WordAt w p (wordRow b rs.length cap r1 r2 (k : Nat))) (hr : RunesAt w b rs) (hk : k ≤ rs.length) (hc1 : rs.length ≤ cap) (hc2 : cap ≤ maxLen) :
    Calls Try.prog 52 #[.pointer (some ⟨p, 0, none⟩)] w fun x w' => x = .returned (.string (runesBytes (rs.drop k))) ∧ ∃ d, w' = w.drewN d := by
  have F := Lib.hid (slice_rv p b cap k r1 r2 rs w h hk hc1 hc2)
  have hcv : ∀ d, (convert 24 9 (tailV b k rs.length cap)).run Try.prog (w.drewN d) = .ok (.string (runesBytes (rs.drop k))) (w.drewN d) := fun d => conv_tailV b k cap rs (w.drewN d) hr hk hc1
  clear h hr
  go_enter Try.func52, Try.ntmps52
  go_wp2_with fail
  refine F.out.mono ?_
  rintro x w' ⟨rfl, d, rfl⟩
  generalize tailV b k rs.length cap = tv at *
  go_wp2
  go_ret
  exact ⟨rfl, d, rfl⟩

theorem fits_rv (p b cap n : Nat) (x : Int) (hx : 0 ≤ x ∧ x ≤ 255) (r1 r2 : Int) (k m : Int) (hm : (n : Int) - x = m) (hn : n ≤ 2147483647) (w : World) (h : WordAt w p (wordRow b n cap r1 r2 k)) :
    Calls Try.prog 55 #[.pointer (some ⟨p, 0, none⟩), .int .i64 x] w fun y w' => y = .returned (.bool (decide (k ≤ m))) ∧ ∃ d, w' = w.drewN d := by
  have c0 : w.cell? ⟨p, 0, none⟩ = some (.slice (some ⟨b, 0, none⟩) n cap) := h.row 0 _ rfl
  have c1 : w.cell? ⟨p, 3, none⟩ = some (.int .i64 k) := h.row 3 _ rfl
  clear h
  have hw : IntKind.i64.wrap ((n : Int) - x) = m := by rw [← hm]; simp [IntKind.wrap, IntKind.min, IntKind.max, IntKind.signed, IntKind.bits]; omega
  clear hm hn hx
  go_enter Try.func55, Try.ntmps55
  go_wp2_with fail
  go_quiet (fail)
  go_wp2
  go_ret
  exact ⟨rfl, _, rfl⟩
end Go.Proofs.Ytaohmmpfiehniaa
