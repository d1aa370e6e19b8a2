/- The contracts of PrefixCoded.Shift and Int64, and of impl.PrefixInt, PrefixShift over them, at the bytes of a coded number whose shift is below 63; and numberAwake. -/
import Derived.Test.YtkhmomagjkdcdaaDoorPre
import Derived.Test.YtkhmomagjkdcdaaDoorWeave
set_option linter.unusedVariables false
set_option linter.unusedSimpArgs false
namespace Go.Proofs.YtkhmomagjkdcdaaDoor
open Go.RowKit

theorem pbytes_zero (n s : Int) : (pbytes n s).getD 0 0 = 32 + s := by
  rw [pbytes_get n s 0 (by omega)]; simp [pbyte]

set_option maxHeartbeats 400000 in
theorem shift_any (s : Int) (l : List Int) (hs0 : 0 ≤ s) (hs1 : s < 63) (b cap : Nat) (w : World) (hl : 0 < l.length) (h0 : w.cell? ⟨b, 0, none⟩ = some (.int .u8 (32 + s))) :
    Calls Tryd.prog 38 #[.slice (some ⟨b, 0, none⟩) l.length cap] w fun e w' => e = .returned (.tuple #[.int .u64 s, .nilIface]) ∧ w = w' := by
  go_enter Tryd.func38, Tryd.ntmps38
  go_wp2
  go_ret2
  exact ⟨by simp; omega, rfl⟩

set_option maxHeartbeats 400000 in
theorem int64_any (n s : Int) (hn0 : -9223372036854775808 ≤ n) (hn1 : n ≤ 9223372036854775807) (hs0 : 0 ≤ s) (hs1 : s < 63) (b cap : Nat) (w : World) (l : List Int) (hl : l = pbytes n s)
    (hcap : l.length ≤ cap) (hm : cap ≤ 9223372036854775807) (hc : ∀ i, i < l.length → w.cell? ⟨b, i, none⟩ = some (.int .u8 (l.getD i 0))) :
    Calls Tryd.prog 36 #[.slice (some ⟨b, 0, none⟩) l.length cap] w fun e w' => e = .returned (.tuple #[.int .i64 (n / 2 ^ s.toNat * 2 ^ s.toNat), .nilIface]) ∧ w = w' := by
  obtain ⟨hk, hk9⟩ := pk_is s hs0 (by omega)
  have hlen : l.length = pk s + 2 := by rw [hl, pbytes_length]
  have h0 : w.cell? ⟨b, 0, none⟩ = some (.int .u8 (32 + s)) := by rw [hc 0 (by omega), hl, pbytes_zero]
  have hb : ∀ i, i < pk s + 1 → w.cell? ⟨b, 1 + i, none⟩ = some (.int .u8 (pbyte n s (pk s) (i + 1))) := fun i hi => by
    rw [hc (1 + i) (by omega), hl, pbytes_get n s (1 + i) (by omega), Nat.add_comm]
  have hcap1 : ¬ cap = 1 := by omega
  have hback := psb_back n s (pk s) hn0 hn1 hs0 (by omega)
  have hz := psb_zero n s (pk s) hn0 hn1 hs0 (by omega) hk
  have HK := Lib.hid hk
  have HL := Lib.hid hl
  have HC := Lib.hid hc
  have HB := Lib.hid hb
  have HZ := Lib.hid hz
  have HBK := Lib.hid hback
  have hl2 : 2 ≤ l.length := by omega
  have HLN := Lib.hid hlen
  clear hk hl hc hb hback hz hlen
  go_enter Tryd.func36, Tryd.ntmps36
  go_wp2_with fail
  refine (shift_any s l hs0 hs1 b cap w (by omega) h0).mono ?_
  rintro e w' ⟨rfl, rfl⟩
  go_wp2_with fail

  have hsub : l.length - 1 = pk s + 1 := by have := HLN.out; omega
  rw [hsub]
  clear hsub
  go_loop [6, 20] (fun v6 v20 => ∃ i : Nat, i ≤ pk s + 1 ∧ v20 = .int .i64 i ∧ v6 = .int .i64 (psb n s (pk s) i)) (fun _ v20 => pk s + 1 - (intOf v20).toNat)
  case atStart => exact ⟨0, by omega, rfl, by rw [HZ.out]⟩
  case round =>
    obtain ⟨i, hi, rfl, rfl⟩ := hrel
    by_cases hlt : i < pk s + 1
    · have ci := HB.out i hlt
      have hrg := pbyte_range n s (pk s) (i + 1) hs0 (by omega)
      have hfo := psb_fold n s (pk s) i (by omega)
      go_wp2
      exact ⟨⟨i + 1, by omega, by go_num, rfl⟩, by simp [intOf]; omega⟩
    · obtain rfl : i = pk s + 1 := by omega
      go_wp2
      go_ret2
      refine ⟨?_, rfl⟩
      show Ending.returned (.tuple #[.int .i64 _, .nilIface]) = _
      rw [HBK.out]
end Go.Proofs.YtkhmomagjkdcdaaDoor
