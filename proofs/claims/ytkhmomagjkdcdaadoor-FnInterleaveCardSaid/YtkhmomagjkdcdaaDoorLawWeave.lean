/- The walk of laws.FnInterleave: true for every two numbers of 32 bits. -/
import Derived.Test.YtkhmomagjkdcdaaDoorWeaveN
import Derived.Test.YtkhmomagjkdcdaaDoorAwake
set_option linter.unusedVariables false
set_option linter.unusedSimpArgs false
namespace Go.Proofs.YtkhmomagjkdcdaaDoor
open Go.RowKit

theorem bit_small (d k : Nat) (hd : d < 2) (hk : k < 64) : d * 2 ^ k < 18446744073709551616 := by
  have h1 : d * 2 ^ k ≤ 1 * 2 ^ k := Nat.mul_le_mul_right _ (by omega)
  have h2 : 2 ^ k ≤ 2 ^ 63 := Nat.pow_le_pow_right (by omega) (by omega)
  have : (2 : Nat) ^ 63 = 9223372036854775808 := rfl
  omega

theorem wv_lt (a b : Nat) : ∀ k, k ≤ 32 → wv a b k < 18446744073709551616 := by
  intro k
  induction k with
  | zero => intro _; show 0 < _; decide
  | succ k ih =>
    intro hk
    have h1 := ih (by omega)
    have h2 := bit_small (a / 2 ^ k % 2) (2 * k) (Nat.mod_lt _ (by omega)) (by omega)
    have h3 := bit_small (b / 2 ^ k % 2) (2 * k + 1) (Nat.mod_lt _ (by omega)) (by omega)
    exact Nat.or_lt_two_pow (n := 64) h1 (Nat.or_lt_two_pow (n := 64) h2 h3)

theorem bit_at (A k j : Nat) (hA : A < 4294967296) (hj : j < 64) : IntKind.u64.wrap (bits .and .u64 ((A : Int) / 2 ^ k) 1 * 2 ^ j) = ((A / 2 ^ k % 2 * 2 ^ j : Nat) : Int) := by
  have e : (A : Int) / 2 ^ k = ((A / 2 ^ k : Nat) : Int) := by norm_cast
  have h1 : A / 2 ^ k ≤ A := Nat.div_le_self _ _
  have h2 := bit_small (A / 2 ^ k % 2) j (Nat.mod_lt _ (by omega)) hj
  rw [e, show (1 : Int) = ((1 : Nat) : Int) from rfl, u64_and_nat _ _ (by omega) (by omega), nat_mask1, IntKind.wrap_u64]
  have e2 : ((A / 2 ^ k % 2 : Nat) : Int) * 2 ^ j = ((A / 2 ^ k % 2 * 2 ^ j : Nat) : Int) := by norm_cast
  rw [e2]
  omega

theorem wv_step (A B k : Nat) (ha : A < 4294967296) (hb : B < 4294967296) (hk : k < 32) :
    bits BinOp.or IntKind.u64 (wv A B k : Nat) (bits BinOp.or IntKind.u64 (IntKind.u64.wrap (bits BinOp.and IntKind.u64 ((A : Int) / 2 ^ k) 1 * 2 ^ (2 * k))) (IntKind.u64.wrap (bits BinOp.and IntKind.u64 ((B : Int) / 2 ^ k) 1 * 2 ^ (2 * k + 1)))) = (wv A B (k + 1) : Nat) := by
  have h2 := bit_small (A / 2 ^ k % 2) (2 * k) (Nat.mod_lt _ (by omega)) (by omega)
  have h3 := bit_small (B / 2 ^ k % 2) (2 * k + 1) (Nat.mod_lt _ (by omega)) (by omega)
  rw [bit_at A k _ ha (by omega), bit_at B k _ hb (by omega), u64_or_nat _ _ h2 h3, u64_or_nat _ _ (wv_lt A B k (by omega)) (Nat.or_lt_two_pow (n := 64) h2 h3)]
  rfl

theorem woven (A B : Nat) (ha : A < 4294967296) (hb : B < 4294967296) (w : World) : Calls Tryd.prog 14 #[.int .u64 (A : Int), .int .u64 (B : Int)] w fun e w' => e = .returned (.int .u64 (wv A B 32 : Nat)) ∧ w = w' := by
  go_enter Tryd.func14, Tryd.ntmps14
  go_wp2_with fail
  go_loop [5, 6] (fun v5 v6 => ∃ k : Nat, k ≤ 32 ∧ v6 = .int .u64 k ∧ v5 = .int .u64 (wv A B k : Nat)) (fun _ v6 => 32 - (intOf v6).toNat)
  case atStart => exact ⟨0, by omega, rfl, rfl⟩
  case round =>
    obtain ⟨k, hk, rfl, rfl⟩ := hrel
    by_cases hlt : k < 32
    · go_wp2
      exact ⟨⟨k + 1, by omega, by go_num, by rw [wv_step A B k ha hb hlt]⟩, by show 32 - ((k : Int) + 1).toNat < 32 - (k : Int).toNat; omega⟩
    · obtain rfl : k = 32 := by omega
      go_wp2
      go_ret
      exact ⟨rfl, rfl⟩

theorem stI_nat (c m X : Nat) (hm : m < 18446744073709551616) (hX : X < 18446744073709551616) : stI (c : Int) (m : Int) (X : Int) = ((stN c m X : Nat) : Int) ∧ stN c m X < 18446744073709551616 := by
  unfold stI stN
  have e : IntKind.u64.wrap ((X : Int) * (c : Int)) = ((X * c % 18446744073709551616 : Nat) : Int) := by rw [IntKind.wrap_u64, ← Int.natCast_mul]; generalize X * c = y; omega
  have h1 : X * c % 18446744073709551616 < 18446744073709551616 := Nat.mod_lt _ (by omega)
  have h2 : X ||| X * c % 18446744073709551616 < 18446744073709551616 := Nat.or_lt_two_pow (n := 64) hX h1
  rw [e, u64_or_nat _ _ hX h1, u64_and_nat _ _ h2 hm]
  exact ⟨rfl, Nat.lt_of_le_of_lt Nat.and_le_right hm⟩
theorem dtI_nat (c m X : Nat) (hm : m < 18446744073709551616) (hX : X < 18446744073709551616) : dtI (c : Int) (m : Int) (X : Int) = ((dtN c m X : Nat) : Int) ∧ dtN c m X < 18446744073709551616 := by
  unfold dtI dtN
  have e : (X : Int) / (c : Int) = ((X / c : Nat) : Int) := by norm_cast
  have h1 : X / c ≤ X := Nat.div_le_self _ _
  have h2 : X ^^^ X / c < 18446744073709551616 := Nat.xor_lt_two_pow (n := 64) hX (show X / c < 2 ^ 64 by omega)
  rw [e, u64_xor_nat _ _ hX (by omega), u64_and_nat _ _ h2 hm]
  exact ⟨rfl, Nat.lt_of_le_of_lt Nat.and_le_right hm⟩

theorem spI_nat (X : Nat) (hX : X < 18446744073709551616) : spI (X : Int) = ((spN X : Nat) : Int) := by
  unfold spI spN
  obtain ⟨e1, h1⟩ := stI_nat 65536 281470681808895 X (by decide) hX
  obtain ⟨e2, h2⟩ := stI_nat 256 71777214294589695 _ (by decide) h1
  obtain ⟨e3, h3⟩ := stI_nat 16 1085102592571150095 _ (by decide) h2
  obtain ⟨e4, h4⟩ := stI_nat 4 3689348814741910323 _ (by decide) h3
  obtain ⟨e5, h5⟩ := stI_nat 2 6148914691236517205 _ (by decide) h4
  rw [← e5, ← e4, ← e3, ← e2, ← e1]
  rfl
theorem deI_nat (X : Nat) (hX : X < 18446744073709551616) : deI (X : Int) = ((deN X : Nat) : Int) := by
  unfold deI deN
  have e0 := u64_and_nat X 6148914691236517205 hX (by decide)
  have h0 : X &&& 6148914691236517205 < 18446744073709551616 := Nat.lt_of_le_of_lt Nat.and_le_left hX
  obtain ⟨e1, h1⟩ := dtI_nat 2 3689348814741910323 _ (by decide) h0
  obtain ⟨e2, h2⟩ := dtI_nat 4 1085102592571150095 _ (by decide) h1
  obtain ⟨e3, h3⟩ := dtI_nat 16 71777214294589695 _ (by decide) h2
  obtain ⟨e4, h4⟩ := dtI_nat 256 281470681808895 _ (by decide) h3
  obtain ⟨e5, h5⟩ := dtI_nat 65536 4294967295 _ (by decide) h4
  rw [← e5, ← e4, ← e3, ← e2, ← e1, ← e0]
  rfl
theorem ilI_nat (A B : Nat) (ha : A < 4294967296) (hb : B < 4294967296) : ilI (A : Int) (B : Int) = ((wv A B 32 : Nat) : Int) := by
  unfold ilI
  have h1 := spN_small A ha
  have h2 := spN_small B hb
  rw [spI_nat A (by omega), spI_nat B (by omega), IntKind.wrap_u64]
  have e : ((spN B : Nat) : Int) * 2 % 18446744073709551616 = ((2 * spN B : Nat) : Int) := by omega
  rw [e, u64_or_nat _ _ h2 (by omega), wv_whole A B ha hb, Nat.or_comm]

set_option maxHeartbeats 1000000 in
theorem walk_weave (a b : Int) (ha0 : 0 ≤ a) (ha1 : a ≤ 4294967295) (hb0 : 0 ≤ b) (hb1 : b ≤ 4294967295) (w : World) (ht : Tabs w) :
    Calls Tryd.prog 5 #[.int .u32 a, .int .u32 b] w fun e w' => e = .returned (.bool true) ∧ Below w.heap.size w w' := by
  obtain ⟨A, rfl⟩ := Int.eq_ofNat_of_zero_le ha0
  obtain ⟨B, rfl⟩ := Int.eq_ofNat_of_zero_le hb0
  have hA : A < 4294967296 := by omega
  have hB : B < 4294967296 := by omega
  have HT := Lib.hid ht
  have hn := wv_lt A B 32 (by omega)
  have e1 : deI ((wv A B 32 : Nat) : Int) = (A : Int) := by rw [deI_nat _ hn, wv_whole A B hA hB, de_first A B hA]
  have e2 : deI (((wv A B 32 : Nat) : Int) / 2) = (B : Int) := by
    have : ((wv A B 32 : Nat) : Int) / 2 = ((wv A B 32 / 2 : Nat) : Int) := by norm_cast
    rw [this, deI_nat _ (by omega), wv_whole A B hA hB, de_second A B hB]
  have E0 := Lib.hid (ilI_nat A B hA hB)
  have E1 := Lib.hid e1
  have E2 := Lib.hid e2
  have HW := fun w => woven A B hA hB w
  have HW2 := Lib.hid HW
  clear ht e1 e2 HW
  go_enter Tryd.func5, Tryd.ntmps5
  go_wp2_with fail
  refine (impl_weave _ _ w HT.out).mono ?_
  rintro e w' ⟨rfl, rfl⟩
  rw [E0.out]
  generalize wv A B 32 = n at *
  go_wp2_with fail
  refine (awake w HT.out).mono ?_
  rintro e w1 ⟨rfl, hb1⟩
  have HT1 := Lib.hid (HT.out.below hb1)
  have HB1 := Lib.hid hb1
  clear hb1
  go_wp2_with fail
  refine (HW2.out w1).mono ?_
  rintro e w' ⟨rfl, rfl⟩
  go_wp2_with fail
  refine (impl_unweave _ w1 HT1.out).mono ?_
  rintro e w' ⟨rfl, rfl⟩
  rw [E1.out]
  go_wp2_with fail
  refine (impl_unweave _ w1 HT1.out).mono ?_
  rintro e w' ⟨rfl, rfl⟩
  rw [E2.out]
  go_wp2
  go_ret
  exact ⟨by simp, HB1.out⟩
end Go.Proofs.YtkhmomagjkdcdaaDoor
