/- The contract of HasSuffixRunesIn, in general. -/
import Derived.Test.YtaohmmpfiehniaaTails
import Derived.Test.YtaohmmpfiehniaaSpecEnds
set_option linter.unusedVariables false
set_option linter.unusedSimpArgs false
namespace Go.Proofs.Ytaohmmpfiehniaa
open Go.RowKit

/-- The part of some code points from one place to another one. -/
def partOf (rs : List Int) (st e : Nat) : List Int := (rs.take e).drop st
theorem part_len (rs : List Int) (st e : Nat) (h : e ≤ rs.length) : (partOf rs st e).length = e - st := by unfold partOf; rw [List.length_drop, List.length_take]; omega
/-- The last i code points of both are alike. -/
def Alike (cs ps : List Int) (i : Nat) : Prop := cs.drop (cs.length - i) = ps.drop (ps.length - i)
theorem alike_zero (cs ps : List Int) : Alike cs ps 0 := by unfold Alike; simp
theorem drop_step {l : List Int} {i : Nat} (h : i < l.length) : l.drop (l.length - (i + 1)) = l.getD (l.length - i - 1) 0 :: l.drop (l.length - i) := by
  have e : l.length - (i + 1) = l.length - i - 1 := by omega
  rw [e, List.drop_eq_getElem_cons (by omega)]
  have e2 : l.length - i - 1 + 1 = l.length - i := by omega
  rw [e2]
  simp [List.getD, List.getElem?_eq_getElem (show l.length - i - 1 < l.length by omega)]
theorem alike_succ {cs ps : List Int} {i : Nat} (h : Alike cs ps i) (h1 : i < cs.length) (h2 : i < ps.length) : Alike cs ps (i + 1) ↔ cs.getD (cs.length - i - 1) 0 = ps.getD (ps.length - i - 1) 0 := by
  unfold Alike at h ⊢
  rw [drop_step h1, drop_step h2, h]
  constructor
  · intro hh; injection hh
  · intro hh; rw [hh]
theorem alike_suffix {cs ps : List Int} {i : Nat} (hi : i ≤ cs.length) (h2 : cs.length ≤ ps.length) (h : cs <:+ ps) : Alike cs ps i := by
  obtain ⟨u, rfl⟩ := h
  unfold Alike
  have e : (u ++ cs).length - i = u.length + (cs.length - i) := by rw [List.length_append]; omega
  rw [e, List.drop_append]
  simp
theorem suffix_of_alike {cs ps : List Int} (h : Alike cs ps cs.length) : cs <:+ ps := by
  unfold Alike at h
  rw [Nat.sub_self, List.drop_zero] at h
  rw [h]; exact List.drop_suffix _ _
theorem part_get (rs : List Int) (st e i : Nat) (he : e ≤ rs.length) (hi : i < e - st) : (partOf rs st e).getD ((partOf rs st e).length - i - 1) 0 = rs.getD (e - i - 1) 0 := by
  rw [part_len rs st e he]
  unfold partOf
  simp only [List.getD, List.getElem?_drop, List.getElem?_take]
  rw [show st + (e - st - i - 1) = e - i - 1 by omega, if_pos (by omega)]

set_option maxHeartbeats 2000000 in
theorem has_in (p b cap c ccap : Nat) (r1 r2 rv : Int) (rs cs : List Int) (st e : Nat) (hse : st ≤ e) (hen : e ≤ rs.length) (hn : rs.length ≤ 2147483647) (hcn : cs.length ≤ 2147483647) (w : World)
    (h : WordAt w p (wordRow b rs.length cap r1 r2 rv)) (hr : RunesAt w b rs) (hc : RunesAt w c cs) :
    Calls Try.prog 44 #[.pointer (some ⟨p, 0, none⟩), .int .i64 st, .int .i64 e, .slice (some ⟨c, 0, none⟩) cs.length ccap] w fun x w' => x = .returned (.bool (decide (cs <:+ partOf rs st e))) ∧ ∃ d, w' = w.drewN d := by
  have c0 : w.cell? ⟨p, 0, none⟩ = some (.slice (some ⟨b, 0, none⟩) rs.length cap) := h.row 0 _ rfl
  have hpl := part_len rs st e hen
  have hw1 : IntKind.i64.wrap ((e : Int) - (st : Int)) = ((e - st : Nat) : Int) := by rw [Int.ofNat_sub hse]; simp [IntKind.wrap, IntKind.min, IntKind.max, IntKind.signed, IntKind.bits]; omega
  have hget := fun i hi => part_get rs st e i hen hi
  clear h
  obtain ⟨k, hk0⟩ : ∃ k, cs.length = k := ⟨_, rfl⟩
  obtain ⟨m, hm0⟩ : ∃ m, e - st = m := ⟨_, rfl⟩
  obtain ⟨n, hn0⟩ : ∃ n, rs.length = n := ⟨_, rfl⟩
  rw [hm0] at hw1 hpl
  by_cases hk : k ≤ m
  · have hkd : decide (m < k) = false := by rw [decide_eq_false_iff_not]; omega
    rw [hk0]
    rw [hn0] at c0 hen hn
    go_enter Try.func44, Try.ntmps44
    go_wp2_with fail
    go_loopw [11, 12] (fun v11 v12 wr => ∃ i d : Nat, wr = w.drewN d ∧ v11 = .int .i64 i ∧ v12 = .int .i64 i ∧ i ≤ k ∧ Alike cs (partOf rs st e) i) (fun _ v12 _ => k - (intOf v12).toNat)
    case atStart => exact ⟨0, 0, rfl, rfl, rfl, by omega, alike_zero _ _⟩
    case round =>
      obtain ⟨i, d, rfl, rfl, rfl, hi, ha⟩ := hrel
      have HA := Lib.hid ha
      clear ha
      by_cases hik : i < k
      · have h7a : decide (i < m) = true := by rw [decide_eq_true_eq]; omega
        have h7b : decide (i < k) = true := by rw [decide_eq_true_eq]; omega
        have hwA : IntKind.i64.wrap ((e : Int) - (i : Int)) = ((e - i : Nat) : Int) := by rw [Int.ofNat_sub (by omega)]; simp [IntKind.wrap, IntKind.min, IntKind.max, IntKind.signed, IntKind.bits]; omega
        have hwB : IntKind.i64.wrap (((e - i : Nat) : Int) - 1) = ((e - i - 1 : Nat) : Int) := by
          have : (((e - i : Nat) : Int) - 1) = ((e - i - 1 : Nat) : Int) := by omega
          rw [this]; simp [IntKind.wrap, IntKind.min, IntKind.max, IntKind.signed, IntKind.bits]; omega
        have hwC : IntKind.i64.wrap ((k : Int) - (i : Int)) = ((k - i : Nat) : Int) := by rw [Int.ofNat_sub (by omega)]; simp [IntKind.wrap, IntKind.min, IntKind.max, IntKind.signed, IntKind.bits]; omega
        have hwD : IntKind.i64.wrap (((k - i : Nat) : Int) - 1) = ((k - i - 1 : Nat) : Int) := by
          have : (((k - i : Nat) : Int) - 1) = ((k - i - 1 : Nat) : Int) := by omega
          rw [this]; simp [IntKind.wrap, IntKind.min, IntKind.max, IntKind.signed, IntKind.bits]; omega
        have q1 : (w.drewN d).cell? ⟨b, e - i - 1, none⟩ = some (.int .i32 (rs.getD (e - i - 1) 0)) := hr (e - i - 1) (by omega)
        have q2 : (w.drewN d).cell? ⟨c, k - i - 1, none⟩ = some (.int .i32 (cs.getD (k - i - 1) 0)) := hc (k - i - 1) (by omega)
        have c0' : (w.drewN d).cell? ⟨p, 0, none⟩ = some (.slice (some ⟨b, 0, none⟩) n cap) := c0
        have u1 : e - i - 1 < n := by omega
        have u2 : k - i - 1 < k := by omega
        have HS := Lib.hid (alike_succ HA.out (by omega) (by omega))
        have hg := hget i (by omega)
        rw [hk0, hg] at HS
        generalize rs.getD (e - i - 1) 0 = x at *
        generalize cs.getD (k - i - 1) 0 = y at *
        generalize e - i - 1 = ei at *
        generalize k - i - 1 = ki at *
        generalize e - i = ei1 at *
        generalize k - i = ki1 at *
        generalize hwr : w.drewN d = wr at *
        go_wp2_with fail
        go_quiet (fail)
        have hdr : wr.drewN nq = w.drewN (d + nq) := by rw [← hwr, World.drewN_drewN]
        by_cases hxy : x = y
        · have hb : (x != y) = false := by simp [hxy]
          have hal := Lib.hid (HS.out.2 hxy.symm)
          clear hxy
          go_wp2
          go_roundw
          case rel => exact ⟨i + 1, d + nq, rfl, by push_cast; rfl, by push_cast; rfl, by omega, hal.out⟩
          case measure => simp [intOf]; omega
        · have hb : (x != y) = true := by simp [hxy]
          have hf : decide (cs <:+ partOf rs st e) = false := by
            rw [decide_eq_false_iff_not]; intro hh
            exact hxy (HS.out.1 (alike_suffix (by omega) (by omega) hh)).symm
          have HF := Lib.hid hf
          have hik1 : ((i : Int) == (k : Int)) = false := by rw [beq_eq_false_iff_ne]; omega
          have hik2 : (i == k) = false := by rw [beq_eq_false_iff_ne]; omega
          clear hxy hf
          go_wp2
          go_ret
          exact ⟨by rw [HF.out]; rfl, d + nq, rfl⟩
      · have hik' : i = k := by omega
        subst hik'
        have h7b : decide (i < i) = false := by simp
        have hf : decide (cs <:+ partOf rs st e) = true := by
          rw [decide_eq_true_eq]; have := HA.out; rw [← hk0] at this; exact suffix_of_alike this
        have HF := Lib.hid hf
        clear hf hik
        by_cases him : i < m
        · have h7a : decide (i < m) = true := by simpa using him
          go_wp2
          go_ret
          exact ⟨by rw [HF.out]; rfl, d, rfl⟩
        · have h7a : decide (i < m) = false := by simpa using him
          go_wp2
          go_ret
          exact ⟨by rw [HF.out]; rfl, d, rfl⟩
  · have hkd : decide (m < k) = true := by rw [decide_eq_true_eq]; omega
    have hf : decide (cs <:+ partOf rs st e) = false := by
      rw [decide_eq_false_iff_not]; intro hh; have := hh.length_le; omega
    have HF := Lib.hid hf
    clear hf hk
    rw [hk0]
    rw [hn0] at c0
    go_enter Try.func44, Try.ntmps44
    go_wp2
    go_ret
    exact ⟨by rw [HF.out]; rfl, 0, rfl⟩
end Go.Proofs.Ytaohmmpfiehniaa
