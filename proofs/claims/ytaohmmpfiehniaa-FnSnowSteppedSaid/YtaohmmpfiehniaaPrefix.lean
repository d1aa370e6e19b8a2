/- The contract of FirstPrefix, in general. -/
import Derived.Test.YtaohmmpfiehniaaSpecFirst
set_option linter.unusedVariables false
set_option linter.unusedSimpArgs false
namespace Go.Proofs.Ytaohmmpfiehniaa
open Go.RowKit

theorem take_step {l : List Int} {j : Nat} (h : j < l.length) : l.take (j + 1) = l.take j ++ [l.getD j 0] := by
  rw [List.take_succ_eq_append_getElem h]; simp [List.getD, h]
theorem prefix_of_take {cs rs : List Int} (h : cs.take cs.length = rs.take cs.length) : cs <+: rs := by
  rw [List.take_length] at h; rw [h]; exact List.take_prefix _ _
theorem take_of_prefix {cs rs : List Int} (h : cs <+: rs) (j : Nat) (hj : j < cs.length) : cs.getD j 0 = rs.getD j 0 := by
  obtain ⟨u, rfl⟩ := h
  simp [List.getD, List.getElem?_append_left hj]

set_option maxHeartbeats 4000000 in
theorem first_prefix (p b cap : Nat) (ad : Option Addr) (tcap : Nat) (r1 r2 rv : Int) (rs : List Int) (ss : List ByteArray) (hn : rs.length ≤ 2147483647) (hss : ss.length ≤ 2147483647) (hst : ∀ t ∈ ss, t.size ≤ 2147483647) (w : World)
    (h : WordAt w p (wordRow b rs.length cap r1 r2 rv)) (hr : RunesAt w b rs) (ht : StrsAt w ad ss) :
    Calls Try.prog 47 #[.pointer (some ⟨p, 0, none⟩), .slice ad ss.length tcap] w fun x w' => x = .returned (.string (firstBegin rs ss)) ∧ Below w.heap.size w w' := by
  have HF := Lib.hid (fun (i : Nat) (hi : i < ss.length) => firstBegin_drop (ps := rs) hi)
  have c0 : w.cell? ⟨p, 0, none⟩ = some (.slice (some ⟨b, 0, none⟩) rs.length cap) := h.row 0 _ rfl
  obtain ⟨k, hk0⟩ : ∃ k, ss.length = k := ⟨_, rfl⟩
  obtain ⟨n, hn0⟩ : ∃ n, rs.length = n := ⟨_, rfl⟩
  rw [hk0]
  rw [hn0] at c0 hn h
  go_enter Try.func47, Try.ntmps47
  go_wp2_with fail
  go_loopw [4, 5, 19] (fun v4 v5 v19 wr => ∃ i : Nat, v4 = .string ⟨#[]⟩ ∧ v5 = .bool false ∧ v19 = .int .i64 i ∧ i ≤ k ∧ Below w.heap.size w wr ∧ firstBegin rs (ss.drop i) = firstBegin rs ss) (fun _ _ v19 _ => k - (intOf v19).toNat)
  case atStart => exact ⟨0, rfl, rfl, rfl, by omega, Below.refl _ _, by rw [List.drop_zero]⟩
  case round =>
    obtain ⟨i, rfl, rfl, rfl, hi, hb, hf⟩ := hrel
    by_cases hik : i < k
    · have hid' : decide (i < k) = true := by simpa using hik
      have hstep := HF.out i (by omega)
      have hmem : ss.getD i ByteArray.empty ∈ ss := by
        simp only [List.getD, List.getElem?_eq_getElem (show i < ss.length by omega), Option.getD_some]; exact List.getElem_mem _
      have hts := hst _ hmem
      obtain ⟨tb, to, had, q⟩ := (ht.below (w := w) hb) i (by omega)
      subst had
      obtain ⟨ccap, W, hcv, hz, hbW, hc, hc1, hc2⟩ := conv_runes (ss.getD i ByteArray.empty) (runesOf (ss.getD i ByteArray.empty)) (runes_of _ (by omega)) wr
      have hbb := hb.trans (hbW.mono hb.size)
      have hr' := hr.below hbb
      have c0' := belowRow hbb c0
      have hL := runesOf_small _ hts
      have HBB := Lib.hid hbb
      have HFE := Lib.hid hf
      clear hb hbW hf hts hmem
      generalize ss.getD i ByteArray.empty = t at *
      generalize hrt : runesOf t = ct at *
      obtain ⟨L, hL0⟩ : ∃ L, ct.length = L := ⟨_, rfl⟩
      rw [hL0] at hcv hc1 hL
      have hiwr : IntKind.i64.wrap ((i : Int) + 1) = ((i + 1 : Nat) : Int) := by push_cast; simp [IntKind.wrap, IntKind.min, IntKind.max, IntKind.signed, IntKind.bits]; omega
      by_cases hln : n < L
      · have hd : decide (n < L) = true := by simpa using hln
        have hno : ¬ ct <+: rs := fun hh => by have := hh.length_le; omega
        rw [if_neg hno] at hstep
        have HS := Lib.hid hstep
        clear hno hstep
        go_wp2
        go_roundw
        case rel => exact ⟨i + 1, rfl, rfl, by push_cast; rfl, by omega, HBB.out, by rw [← HS.out]; exact HFE.out⟩
        case measure => simp [intOf]; omega
      · have hd : decide (n < L) = false := by simpa using hln
        have HS := Lib.hid hstep
        clear hstep
        go_wp2_with fail
        go_loop [5, 31] (fun v5 v31 => ∃ j : Nat, v5 = .bool true ∧ v31 = .int .i64 j ∧ j ≤ L ∧ ct.take j = rs.take j) (fun _ v31 => L - (intOf v31).toNat)
        case atStart => exact ⟨0, rfl, rfl, by omega, by simp⟩
        case round =>
          obtain ⟨j, rfl, rfl, hj, hal⟩ := hrel
          have HAL := Lib.hid hal
          clear hal
          by_cases hjl : j < L
          · have hjd : decide (j < L) = true := by simpa using hjl
            have hwn : IntKind.i64.wrap ((n : Int) - 1) = ((n - 1 : Nat) : Int) := by
              have : ((n : Int) - 1) = ((n - 1 : Nat) : Int) := by omega
              rw [this]; simp [IntKind.wrap, IntKind.min, IntKind.max, IntKind.signed, IntKind.bits]; omega
            have hjn : decide (n - 1 < j) = false := by rw [decide_eq_false_iff_not]; omega
            have hjn2 : j < n := by omega
            have hjw : IntKind.i64.wrap ((j : Int) + 1) = ((j + 1 : Nat) : Int) := by push_cast; simp [IntKind.wrap, IntKind.min, IntKind.max, IntKind.signed, IntKind.bits]; omega
            have q1 : W.cell? ⟨b, j, none⟩ = some (.int .i32 (rs.getD j 0)) := hr' j (by omega)
            have q2 : W.cell? ⟨wr.heap.size, j, none⟩ = some (.int .i32 (ct.getD j 0)) := hc j (by omega)
            have hstepT : ct.getD j 0 = rs.getD j 0 → ct.take (j + 1) = rs.take (j + 1) := fun hh => by
              rw [take_step (by omega), take_step (by omega), HAL.out, hh]
            have hstepF : ct <+: rs → ct.getD j 0 = rs.getD j 0 := fun hh => take_of_prefix hh j (by omega)
            generalize rs.getD j 0 = x at *
            generalize ct.getD j 0 = y at *
            by_cases hxy : x = y
            · have hbx : (x != y) = false := by simp [hxy]
              have hal2 := Lib.hid (hstepT hxy.symm)
              clear hxy hstepT hstepF
              go_wp2
              go_round
              case rel => exact ⟨j + 1, rfl, by push_cast; rfl, by omega, hal2.out⟩
              case measure => simp [intOf]; omega
            · have hbx : (x != y) = true := by simp [hxy]
              have hno : ¬ ct <+: rs := fun hh => hxy (hstepF hh).symm
              have hs2 := HS.out
              rw [if_neg hno] at hs2
              have HS2 := Lib.hid hs2
              clear hno hs2 hxy hstepT hstepF
              go_wp2
              go_roundw
              case rel => exact ⟨i + 1, rfl, rfl, by push_cast; rfl, by omega, HBB.out, by rw [← HS2.out]; exact HFE.out⟩
              case measure => simp [intOf]; omega
          · have hjd : decide (j < L) = false := by simpa using hjl
            have hj' : j = ct.length := by omega
            have hyes : ct <+: rs := by apply prefix_of_take; rw [← hj']; exact HAL.out
            have hs2 := HS.out
            rw [if_pos hyes] at hs2
            have HS2 := Lib.hid hs2
            clear hyes hs2 hj'
            go_wp2
            go_ret
            exact ⟨by rw [← HFE.out, HS2.out]; rfl, HBB.out⟩
    · have hid' : decide (i < k) = false := by simpa using hik
      have hnil : firstBegin rs ss = ⟨#[]⟩ := by rw [← hf, List.drop_of_length_le (by omega)]; rfl
      have HN := Lib.hid hnil
      have HB := Lib.hid hb
      clear hb hf hnil
      go_wp2
      go_ret
      exact ⟨by rw [HN.out]; rfl, HB.out⟩
end Go.Proofs.Ytaohmmpfiehniaa
