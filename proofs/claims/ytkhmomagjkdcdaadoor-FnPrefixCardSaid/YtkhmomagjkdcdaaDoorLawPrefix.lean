/- The walk of laws.FnPrefix: true for every number and every shift byte. -/
import Derived.Test.YtkhmomagjkdcdaaDoorValid
import Derived.Test.YtkhmomagjkdcdaaDoorShift
import Derived.Test.YtkhmomagjkdcdaaDoorErr
import Derived.Test.YtkhmomagjkdcdaaDoorBad
import Derived.Deep.DeepCutAuto
set_option linter.unusedVariables false
set_option linter.unusedSimpArgs false
namespace Go.Proofs.YtkhmomagjkdcdaaDoor
open Go.RowKit

/-- A slice of bytes, as a text: in every world behind the one in which it lies. -/
theorem ByteSl.conv {w : World} {v : Value} {l : List Int} (h : ByteSl w v l) : ∀ W, Below w.heap.size w W → (convert 23 9 v).run Tryd.prog W = .ok (.string (strOfNums l)) W := by
  intro W hb
  obtain ⟨b, cap, rfl, _, _, hc⟩ := h.below hb
  exact run_convert_bytes_arg (P := Tryd.prog) W 23 5 Tryd.underlying23 Tryd.underlying5 b 0 l.length cap l rfl (fun i hi => by rw [Nat.zero_add]; exact hc i hi) 9 Tryd.underlying9

theorem impl_valid_sl (v : Value) (l : List Int) (w : World) (hl : l.length < 2147483648) (hr : ∀ x ∈ l, 0 ≤ x ∧ x ≤ 255) (h : ByteSl w v l) :
    Calls Tryd.prog 21 #[v] w fun e w' => e = .returned (.tuple #[.bool (vOk (hd l) l.length), .int .i64 (vShift (hd l) l.length), .bool (vOk (hd l) l.length), .int .i64 (vShift (hd l) l.length)]) ∧ Below w.heap.size w w' := by
  obtain ⟨b, cap, rfl, _, _, hc⟩ := h
  exact impl_valid _ cap l w hl ⟨hr, fun _ => ⟨b, 0, rfl, fun i hi => by rw [Nat.zero_add]; exact hc i hi⟩⟩

theorem below_drew' {B : Nat} {a b : World} (h : Below B a.drew b) : Below B a b := ⟨h.os, h.tape, h.output, h.size, h.block⟩

set_option maxRecDepth 100000 in
set_option maxHeartbeats 1000000 in
theorem walk_prefix_in (n x : Int) (hn0 : -9223372036854775808 ≤ n) (hn1 : n ≤ 9223372036854775807) (hx0 : 0 ≤ x) (hx1 : x ≤ 63) (w : World) (ht : Tabs w) :
    Calls Tryd.prog 8 #[.int .i64 n, .int .u8 x] w fun e w' => e = .returned (.bool true) ∧ Below w.heap.size w w' := by
  have HT := Lib.hid ht
  clear ht
  have d1 : decide (200 < x) = false := by simp; omega
  have d2 : decide (63 < x) = false := by simp; omega
  have HN := Lib.hid (fun w => impl_new n x hn0 hn1 hx0 hx1 w)
  have HC := Lib.hid (fun w => coded n x hn0 hn1 hx0 hx1 w)
  generalize hl : pbytes n x = l at *
  have HL := Lib.hid hl
  clear hl
  go_enter Tryd.func8, Tryd.ntmps8
  go_wp2_with fail
  refine (HN.out w).mono ?_
  rintro e w1 ⟨v, rfl, hv, hb⟩
  have HV := Lib.hid hv
  have HB := Lib.hid hb
  have K1 := Lib.hid hv.conv
  generalize hA : strOfNums l = A at *
  have HA := Lib.hid hA
  clear hb hv hA
  go_upto_region 6 with fail
  go_cut [43] (fun s43 wx => s43 = .bool false ∧ Below w1.heap.size w1 wx)
  case first =>
    have k0 := K1.out w1.drew (Below.drew (Below.refl _ _))
    refine wp_region_any (by kernel_rfl) ?_
    change wpAny _ _ _ _ _ _ _ (World.drew _)
    refine take_at 32 (i := 0) (v := .bool true) rfl (by kernel_rfl) (by kernel_rfl) (by kernel_rfl) (by kernel_rfl) (fun _ _ _ h => h) (Or.inl ⟨by kernel_rfl, fun _ => by kernel_rfl⟩) ?_
    refine take_at 33 (i := 1) (v := .bool false) rfl (by kernel_rfl) (by kernel_rfl) (by kernel_rfl) (by kernel_rfl) (fun _ _ _ h => h) (Or.inl ⟨by kernel_rfl, fun _ => by kernel_rfl⟩) ?_
    refine take_at 34 (i := 2) (v := .bool false) rfl (by kernel_rfl) (by kernel_rfl) (by kernel_rfl) (by kernel_rfl) (fun _ _ _ h => h) (Or.inl ⟨by kernel_rfl, fun _ => by kernel_rfl⟩) ?_
    refine take_at 35 (i := 3) (v := v) rfl (by kernel_rfl) (by kernel_rfl) (by kernel_rfl) (by kernel_rfl) (fun _ _ _ h => h) (Or.inl ⟨by kernel_rfl, fun _ => by kernel_rfl⟩) ?_
    refine take_at 37 (i := 5) (v := .int .i64 n) rfl (by kernel_rfl) (by kernel_rfl) (by kernel_rfl) (by kernel_rfl) (fun _ _ _ h => h) (Or.inl ⟨by kernel_rfl, fun _ => by kernel_rfl⟩) ?_
    refine take_at 38 (i := 6) (v := .int .u8 x) rfl (by kernel_rfl) (by kernel_rfl) (by kernel_rfl) (by kernel_rfl) (fun _ _ _ h => h) (Or.inl ⟨by kernel_rfl, fun _ => by kernel_rfl⟩) ?_
    refine take_at 39 (i := 7) (v := .int .u64 x) rfl (by kernel_rfl) (by kernel_rfl) (by kernel_rfl) (by kernel_rfl) (fun _ _ _ h => h) (Or.inl ⟨by kernel_rfl, fun w => ?_⟩) ?_
    · refine exec_convert (v := .int .u8 x) rfl (by kernel_rfl) ?_
      go_simp
      rw [IntKind.wrap_u64]
      omega
    refine wpAny_ready (rs := [4, 8]) (by kernel_rfl) (by simp) ?_
    refine ready_op 36 (v := .string A) (w' := w1.drew) rfl (by kernel_rfl) (by kernel_rfl) (exec_convert (v := v) rfl (by kernel_rfl) k0) ?_ ?_
    · refine wpAny_ready (rs := [8]) (by kernel_rfl) (by simp) ?_
      refine ready_call 40 (f := 11) (args := #[.int .i64 n, .int .u64 x]) rfl (by kernel_rfl) (by kernel_rfl) (by kernel_rfl) ?_ AllReady.nil
      refine (HC.out w1.drew).mono ?_
      rintro e w2 ⟨v2, rfl, hv2, hb2⟩
      have HB2 := Lib.hid (below_drew' hb2)
      have k2 := hv2.conv w2 (Below.refl _ _)
      have k3 := K1.out w2 HB2.out
      rw [HA.out] at k2
      clear hb2 hv2
      refine ⟨v2, rfl, ?_⟩
      refine wpAny_ready (rs := [9]) (by kernel_rfl) (by simp) ?_
      refine ready_op 41 (v := .string A) (w' := w2) rfl (by kernel_rfl) (by kernel_rfl) (exec_convert (v := v2) rfl (by kernel_rfl) k2) ?_ AllReady.nil
      refine wpAny_ready (rs := [10]) (by kernel_rfl) (by simp) ?_
      refine ready_op 42 (v := .bool (!(A.toList == A.toList))) (w' := w2) rfl (by kernel_rfl) (by kernel_rfl) (by kernel_rfl) ?_ AllReady.nil
      refine wpAny_ready (rs := [11]) (by kernel_rfl) (by simp) ?_
      refine ready_op 43 (v := .bool (!(A.toList == A.toList))) (w' := w2) rfl (by kernel_rfl) (by kernel_rfl) (by kernel_rfl) ?_ AllReady.nil
      refine wpAny_done (by kernel_rfl) ?_ _
      simp only [Act.at_, List.setIfInBounds_toArray, List.set_cons_zero, List.set_cons_succ]
      go_wp2_with fail
      go_meet
      exact ⟨by simp, HB2.out⟩
    · refine ready_call 40 (f := 11) (args := #[.int .i64 n, .int .u64 x]) rfl (by kernel_rfl) (by kernel_rfl) (by kernel_rfl) ?_ AllReady.nil
      refine (HC.out w1.drew).mono ?_
      rintro e w2 ⟨v2, rfl, hv2, hb2⟩
      have HB2 := Lib.hid (below_drew' hb2)
      have k2 := hv2.conv w2 (Below.refl _ _)
      have k3 := K1.out w2 HB2.out
      rw [HA.out] at k2
      clear hb2 hv2
      refine ⟨v2, rfl, ?_⟩
      refine wpAny_ready (rs := [4, 9]) (by kernel_rfl) (by simp) ?_
      refine ready_op 36 (v := .string A) (w' := w2) rfl (by kernel_rfl) (by kernel_rfl) (exec_convert (v := v) rfl (by kernel_rfl) k3) ?_ ?_
      · refine wpAny_ready (rs := [9]) (by kernel_rfl) (by simp) ?_
        refine ready_op 41 (v := .string A) (w' := w2) rfl (by kernel_rfl) (by kernel_rfl) (exec_convert (v := v2) rfl (by kernel_rfl) k2) ?_ AllReady.nil
        refine wpAny_ready (rs := [10]) (by kernel_rfl) (by simp) ?_
        refine ready_op 42 (v := .bool (!(A.toList == A.toList))) (w' := w2) rfl (by kernel_rfl) (by kernel_rfl) (by kernel_rfl) ?_ AllReady.nil
        refine wpAny_ready (rs := [11]) (by kernel_rfl) (by simp) ?_
        refine ready_op 43 (v := .bool (!(A.toList == A.toList))) (w' := w2) rfl (by kernel_rfl) (by kernel_rfl) (by kernel_rfl) ?_ AllReady.nil
        refine wpAny_done (by kernel_rfl) ?_ _
        simp only [Act.at_, List.setIfInBounds_toArray, List.set_cons_zero, List.set_cons_succ]
        go_wp2_with fail
        go_meet
        exact ⟨by simp, HB2.out⟩
      · refine ready_op 41 (v := .string A) (w' := w2) rfl (by kernel_rfl) (by kernel_rfl) (exec_convert (v := v2) rfl (by kernel_rfl) k2) ?_ AllReady.nil
        refine wpAny_ready (rs := [4]) (by kernel_rfl) (by simp) ?_
        refine ready_op 36 (v := .string A) (w' := w2) rfl (by kernel_rfl) (by kernel_rfl) (exec_convert (v := v) rfl (by kernel_rfl) k3) ?_ AllReady.nil
        refine wpAny_ready (rs := [10]) (by kernel_rfl) (by simp) ?_
        refine ready_op 42 (v := .bool (!(A.toList == A.toList))) (w' := w2) rfl (by kernel_rfl) (by kernel_rfl) (by kernel_rfl) ?_ AllReady.nil
        refine wpAny_ready (rs := [11]) (by kernel_rfl) (by simp) ?_
        refine ready_op 43 (v := .bool (!(A.toList == A.toList))) (w' := w2) rfl (by kernel_rfl) (by kernel_rfl) (by kernel_rfl) ?_ AllReady.nil
        refine wpAny_done (by kernel_rfl) ?_ _
        simp only [Act.at_, List.setIfInBounds_toArray, List.set_cons_zero, List.set_cons_succ]
        go_wp2_with fail
        go_meet
        exact ⟨by simp, HB2.out⟩
  case rest =>
    obtain ⟨rfl, hbx⟩ := hcut
    have HX := Lib.hid hbx
    have HBX := Lib.hid (HB.out.trans (hbx.mono HB.out.size))
    have HVX := Lib.hid (HV.out.below hbx)
    clear hbx
    have hlen : l.length = pk x + 2 := by rw [← HL.out, pbytes_length]
    have hk := pk_is x hx0 hx1
    have hhd : hd l = 32 + x := by rw [← HL.out]; exact pbytes_zero n x
    have hrange : ∀ y ∈ l, 0 ≤ y ∧ y ≤ 255 := by
      intro y hy
      rw [← HL.out] at hy
      simp only [pbytes, List.mem_map, List.mem_range] at hy
      obtain ⟨i, _, rfl⟩ := hy
      have := pbyte_range n x (pk x) i hx0 hx1
      omega
    obtain ⟨v1, v2⟩ := vOk_yes (c := 32 + x) (n := l.length) (by omega) (by omega) (by omega) (by omega)
    have HVAL := Lib.hid (fun w h => impl_valid_sl v l w (by omega) hrange h)
    rw [hhd, v1, v2, show 32 + x - 32 = x by omega] at HVAL
    clear hlen hk hhd hrange v1 v2
    go_wp2_with fail
    by_cases h63 : x < 63
    · have d3 : decide (x < 63) = true := by simp [h63]
      have HI := Lib.hid (impl_int n x hn0 hn1 hx0 h63 v wc (by rw [HL.out]; exact HVX.out))
      have HS := Lib.hid (fun w h => impl_shift n x hx0 h63 v w h)
      rw [HL.out] at HS
      have hw : wrap64 (n / 2 ^ x.toNat * 2 ^ x.toNat) = n / 2 ^ x.toNat * 2 ^ x.toNat := by
        rw [← psb_back n x (pk x) hn0 hn1 hx0 (by omega)]
        unfold wrap64
        omega
      obtain ⟨r, hret⟩ : ∃ r, r = n / 2 ^ x.toNat * 2 ^ x.toNat := ⟨_, rfl⟩
      rw [← hret] at HI
      have hne : (r != wrap64 (n / 2 ^ x.toNat * 2 ^ x.toNat)) = false := by rw [hw, hret]; simp
      clear hw hret
      refine HI.out.mono ?_
      rintro e w3 ⟨rfl, hb⟩
      have HB3 := Lib.hid (HBX.out.trans (hb.mono HBX.out.size))
      have HV3 := Lib.hid (HVX.out.below hb)
      clear hb
      go_wp2_with fail
      refine (HVAL.out w3 HV3.out).mono ?_
      rintro e w4 ⟨rfl, hb⟩
      have HB4 := Lib.hid (HB3.out.trans (hb.mono HB3.out.size))
      have HV4 := Lib.hid (HV3.out.below hb)
      clear hb
      go_wp2_with fail
      refine (HS.out w4 HV4.out).mono ?_
      rintro e w5 ⟨rfl, hb⟩
      have HB5 := Lib.hid (HB4.out.trans (hb.mono HB4.out.size))
      clear hb
      go_wp2_with fail
      refine (awake w5 (HT.out.below HB5.out)).mono ?_
      rintro e w6 ⟨rfl, hb⟩
      have HB6 := Lib.hid (HB5.out.trans (hb.mono HB5.out.size))
      clear hb
      go_wp2
      go_ret
      exact ⟨by simp, HB6.out⟩
    · obtain rfl : x = 63 := by omega
      have HI := Lib.hid (impl_int_bad n v wc (by rw [HL.out]; exact HVX.out))
      refine HI.out.mono ?_
      rintro e w3 ⟨rfl, hb⟩
      have HB3 := Lib.hid (HBX.out.trans (hb.mono HBX.out.size))
      have HV3 := Lib.hid (HVX.out.below hb)
      clear hb
      go_wp2_with fail
      refine (HVAL.out w3 HV3.out).mono ?_
      rintro e w4 ⟨rfl, hb⟩
      have HB4 := Lib.hid (HB3.out.trans (hb.mono HB3.out.size))
      clear hb
      go_wp2_with fail
      refine (awake w4 (HT.out.below HB4.out)).mono ?_
      rintro e w6 ⟨rfl, hb⟩
      have HB6 := Lib.hid (HB4.out.trans (hb.mono HB4.out.size))
      clear hb
      go_wp2
      go_ret
      exact ⟨by simp, HB6.out⟩

set_option maxRecDepth 100000 in
set_option maxHeartbeats 1000000 in
theorem walk_prefix (n x : Int) (hn0 : -9223372036854775808 ≤ n) (hn1 : n ≤ 9223372036854775807) (hx0 : 0 ≤ x) (hx1 : x ≤ 255) (w : World) (ht : Tabs w) :
    Calls Tryd.prog 8 #[.int .i64 n, .int .u8 x] w fun e w' => e = .returned (.bool true) ∧ Below w.heap.size w w' := by
  by_cases h1 : x ≤ 63
  · exact walk_prefix_in n x hn0 hn1 hx0 h1 w ht
  · have HT := Lib.hid ht
    clear ht
    have d2 : decide (63 < x) = true := by simp; omega
    by_cases h2 : 200 < x
    · have d1 : decide (200 < x) = true := by simp; omega
      go_enter Tryd.func8, Tryd.ntmps8
      go_wp2_with fail
      refine (awake w HT.out).mono ?_
      rintro e w1 ⟨rfl, hb⟩
      have HB := Lib.hid hb
      clear hb
      go_wp2
      go_ret
      exact ⟨rfl, HB.out⟩
    · have d1 : decide (200 < x) = false := by simp; omega
      have HE := Lib.hid (fun w => impl_err n x (by omega) w)
      go_enter Tryd.func8, Tryd.ntmps8
      go_wp2_with fail
      refine (HE.out w).mono ?_
      rintro e w1 ⟨rfl, hb⟩
      have HB := Lib.hid hb
      clear hb
      go_wp2_with fail
      refine (awake w1 (HT.out.below HB.out)).mono ?_
      rintro e w2 ⟨rfl, hb⟩
      have HB2 := Lib.hid (HB.out.trans (hb.mono HB.out.size))
      clear hb
      go_wp2
      go_ret
      exact ⟨rfl, HB2.out⟩
end Go.Proofs.YtkhmomagjkdcdaaDoor
