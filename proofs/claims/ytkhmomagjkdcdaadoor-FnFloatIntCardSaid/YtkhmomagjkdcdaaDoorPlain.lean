/- Plain arithmetic of the prefix coded numbers: the bytes of a number without its lowest bits. Conditions: the number is an int64, the shift is at most 63. -/
import Derived.WalkKit
import Derived.Laws.BitsAllLaws
import Derived.Laws.Bits128
set_option linter.unusedVariables false
set_option linter.unusedSimpArgs false
namespace Go.Proofs.YtkhmomagjkdcdaaDoor
open Go.RowKit

theorem u64_of_wrap64 (x : Int) (h0 : 0 ≤ x) (h1 : x < 18446744073709551616) : IntKind.u64.wrap (wrap64 x) = x := by
  rw [IntKind.wrap_u64]; unfold wrap64; omega

theorem xor_top (a : Nat) (h : a < 18446744073709551616) : a ^^^ 9223372036854775808 = (a + 9223372036854775808) % 18446744073709551616 := by
  apply Nat.eq_of_testBit_eq
  intro i
  rw [show 18446744073709551616 = 2 ^ 64 from rfl, Nat.testBit_mod_two_pow, Nat.testBit_xor, show 9223372036854775808 = 2 ^ 63 from rfl, Nat.testBit_two_pow, Nat.add_comm]
  rcases Nat.lt_trichotomy i 63 with hi | hi | hi
  · rw [Nat.testBit_two_pow_add_gt hi]
    simp [show ¬ 63 = i by omega, show i < 64 by omega]
  · subst hi
    rw [Nat.testBit_two_pow_add_eq]
    simp
  · have : a.testBit i = false := Nat.testBit_lt_two_pow (Nat.lt_of_lt_of_le (show a < 2 ^ 64 from h) (Nat.pow_le_pow_right (show 2 > 0 by decide) (show 64 ≤ i from hi)))
    simp [this, show ¬ 63 = i by omega, show ¬ i < 64 by omega]

theorem bits_xor_top (n : Int) (h0 : -9223372036854775808 ≤ n) (h1 : n ≤ 9223372036854775807) : bits .xor .u64 (IntKind.u64.wrap n) 9223372036854775808 = n + 9223372036854775808 := by
  rw [IntKind.wrap_u64, u64_xor _ _ (by omega) (by omega) (by omega) (by omega)]
  have h := xor_top (n % 18446744073709551616).toNat (by omega)
  rw [show ((9223372036854775808 : Int)).toNat = 9223372036854775808 from rfl, h]
  omega

/-- What is left of a number behind a shift, its sign turned. -/
def pq (n s : Int) : Int := (n + 9223372036854775808) / 2 ^ s.toNat
/-- Byte i of the coded number; k: how many times 7 goes into what is left of 63 bits. -/
def pbyte (n s : Int) (k i : Nat) : Int := if i = 0 then 32 + s else pq n s / 128 ^ (k + 1 - i) % 128
/-- The frame's number behind k + 1 - j rounds. -/
def psb (n s : Int) (k j : Nat) : Int := wrap64 (pq n s / 128 ^ (k + 1 - j))

theorem pq_range (n s : Int) (h0 : -9223372036854775808 ≤ n) (h1 : n ≤ 9223372036854775807) : 0 ≤ pq n s ∧ pq n s < 18446744073709551616 := by
  unfold pq
  have hp : (0 : Int) < 2 ^ s.toNat := Int.pow_pos (by omega)
  refine ⟨Int.ediv_nonneg (by omega) (by omega), ?_⟩
  refine Int.ediv_lt_of_lt_mul hp ?_
  have : (18446744073709551616 : Int) * 1 ≤ 18446744073709551616 * 2 ^ s.toNat := Int.mul_le_mul_of_nonneg_left (by omega) (by omega)
  omega

theorem pqd_range (n s : Int) (m : Nat) (h0 : -9223372036854775808 ≤ n) (h1 : n ≤ 9223372036854775807) : 0 ≤ pq n s / 128 ^ m ∧ pq n s / 128 ^ m < 18446744073709551616 := by
  have ⟨a, b⟩ := pq_range n s h0 h1
  have hp : (0 : Int) < 128 ^ m := Int.pow_pos (by omega)
  refine ⟨Int.ediv_nonneg a (by omega), Int.ediv_lt_of_lt_mul hp ?_⟩
  have : (18446744073709551616 : Int) * 1 ≤ 18446744073709551616 * 128 ^ m := Int.mul_le_mul_of_nonneg_left (by omega) (by omega)
  omega

theorem psb_start (n s : Int) (k : Nat) (h0 : -9223372036854775808 ≤ n) (h1 : n ≤ 9223372036854775807) :
    wrap64 (IntKind.u64.wrap (wrap64 (bits .xor .u64 (IntKind.u64.wrap n) 9223372036854775808)) / 2 ^ s.toNat) = psb n s k (k + 1) := by
  rw [bits_xor_top n h0 h1, u64_of_wrap64 _ (by omega) (by omega)]
  unfold psb
  rw [Nat.sub_self]
  simp [pq]

theorem psb_next (n s : Int) (k j : Nat) (hj : j ≤ k) (h0 : -9223372036854775808 ≤ n) (h1 : n ≤ 9223372036854775807) :
    wrap64 (IntKind.u64.wrap (psb n s k (j + 1)) / 128) = psb n s k j := by
  have ⟨a, b⟩ := pqd_range n s (k + 1 - (j + 1)) h0 h1
  unfold psb
  rw [u64_of_wrap64 _ a b, show k + 1 - j = (k + 1 - (j + 1)) + 1 by omega, Int.pow_succ, Int.ediv_ediv_of_nonneg (Int.le_of_lt (Int.pow_pos (by omega)))]

theorem psb_byte (n s : Int) (k j : Nat) (hj : 1 ≤ j) : bits .and .i64 (psb n s k j) 127 = pbyte n s k j := by
  rw [i64_and127]
  unfold psb pbyte wrap64
  rw [if_neg (by omega)]
  omega

theorem pbyte_range (n s : Int) (k i : Nat) (hs0 : 0 ≤ s) (hs1 : s ≤ 63) : 0 ≤ pbyte n s k i ∧ pbyte n s k i ≤ 127 := by
  unfold pbyte; split <;> omega

theorem bits_or_i64 (x y : Int) : bits .or .i64 x y = wrap64 (((x % 18446744073709551616).toNat ||| (y % 18446744073709551616).toNat : Nat) : Int) := by
  show IntKind.i64.wrap ((BitVec.ofInt 64 x ||| BitVec.ofInt 64 y).toNat : Int) = _
  have h : ∀ z : Int, (BitVec.ofInt 64 z).toNat = (z % 18446744073709551616).toNat := fun z => by simp [BitVec.toNat_ofInt]
  rw [BitVec.toNat_or, h, h, IntKind.wrap_i64]
  unfold wrap64
  omega

theorem or_low (x y : Int) (hx : x % 128 = 0) (h0 : 0 ≤ y) (h1 : y < 128) : bits .or .i64 x y = wrap64 (x + y) := by
  rw [bits_or_i64, nat_join 7 _ _ (by omega) (by omega)]
  unfold wrap64
  omega

theorem psb_zero (n s : Int) (k : Nat) (hn0 : -9223372036854775808 ≤ n) (hn1 : n ≤ 9223372036854775807) (hs0 : 0 ≤ s) (hs1 : s ≤ 63) (hk : (63 - s) / 7 = (k : Int)) : psb n s k 0 = 0 := by
  have hq : pq n s / 128 ^ (k + 1 - 0) = 0 := by
    refine Int.ediv_eq_zero_of_lt (pq_range n s hn0 hn1).1 ?_
    unfold pq
    refine Int.ediv_lt_of_lt_mul (Int.pow_pos (by omega)) ?_
    have h : (2 : Int) ^ 64 ≤ 128 ^ (k + 1 - 0) * 2 ^ s.toNat := by
      rw [show (128 : Int) = 2 ^ 7 from rfl, ← Int.pow_mul, ← Int.pow_add]
      have := Nat.pow_le_pow_right (show 2 > 0 by decide) (show 64 ≤ 7 * (k + 1 - 0) + s.toNat by omega)
      exact_mod_cast this
    have : (2 : Int) ^ 64 = 18446744073709551616 := rfl
    omega
  unfold psb
  rw [hq]
  unfold wrap64
  omega

theorem psb_fold (n s : Int) (k i : Nat) (hi : i ≤ k) : bits .or .i64 (wrap64 (psb n s k i * 128)) (pbyte n s k (i + 1)) = psb n s k (i + 1) := by
  have hb : pbyte n s k (i + 1) = pq n s / 128 ^ (k - i) % 128 := by unfold pbyte; rw [if_neg (by omega), show k + 1 - (i + 1) = k - i by omega]
  have he : pq n s / 128 ^ (k + 1 - i) = pq n s / 128 ^ (k - i) / 128 := by
    rw [show k + 1 - i = (k - i) + 1 by omega, Int.pow_succ, Int.ediv_ediv_of_nonneg (Int.le_of_lt (Int.pow_pos (by omega)))]
  rw [hb]
  unfold psb
  rw [he, show k + 1 - (i + 1) = k - i by omega]
  generalize pq n s / 128 ^ (k - i) = z
  rw [or_low _ _ (by unfold wrap64; omega) (by omega) (by omega)]
  unfold wrap64
  omega

/-- The number back, without its lowest bits. -/
theorem psb_back (n s : Int) (k : Nat) (hn0 : -9223372036854775808 ≤ n) (hn1 : n ≤ 9223372036854775807) (hs0 : 0 ≤ s) (hs1 : s ≤ 63) :
    wrap64 (bits .xor .u64 (IntKind.u64.wrap (wrap64 (psb n s k (k + 1) * 2 ^ s.toNat))) 9223372036854775808) = n / 2 ^ s.toNat * 2 ^ s.toNat := by
  have hp : (0 : Int) < 2 ^ s.toNat := Int.pow_pos (by omega)
  have hm : (2 : Int) ^ s.toNat * 2 ^ (63 - s.toNat) = 9223372036854775808 := by
    rw [← Int.pow_add, show s.toNat + (63 - s.toNat) = 63 by omega]; rfl
  have hq : pq n s = n / 2 ^ s.toNat + 2 ^ (63 - s.toNat) := by
    unfold pq
    rw [← hm, Int.add_mul_ediv_left _ _ (by omega)]
  have hd : n / 2 ^ s.toNat * 2 ^ s.toNat = n - n % 2 ^ s.toNat := by have := Int.ediv_mul_add_emod n (2 ^ s.toNat); omega
  have r0 := Int.emod_nonneg n (show (2 : Int) ^ s.toNat ≠ 0 by omega)
  have r1 := Int.emod_lt_of_pos n hp
  have hle : n % 2 ^ s.toNat ≤ n + 9223372036854775808 := by
    have h1 : (n + 9223372036854775808) % 2 ^ s.toNat = n % 2 ^ s.toNat := by rw [← hm, Int.add_mul_emod_self_left]
    have h2 := Int.ediv_mul_add_emod (n + 9223372036854775808) (2 ^ s.toNat)
    have h3 : 0 ≤ (n + 9223372036854775808) / 2 ^ s.toNat * 2 ^ s.toNat := Int.mul_nonneg (Int.ediv_nonneg (by omega) (by omega)) (by omega)
    omega
  have hx : psb n s k (k + 1) * 2 ^ s.toNat = n / 2 ^ s.toNat * 2 ^ s.toNat + 9223372036854775808 + 18446744073709551616 * (((pq n s + 9223372036854775808) / 18446744073709551616) * -1 * 2 ^ s.toNat) := by
    unfold psb wrap64
    rw [Nat.sub_self]
    have e : (pq n s / 128 ^ 0 + 9223372036854775808) % 18446744073709551616 - 9223372036854775808 = pq n s - 18446744073709551616 * ((pq n s + 9223372036854775808) / 18446744073709551616) := by
      simp only [Int.pow_zero, Int.ediv_one]; omega
    rw [e, Int.sub_mul, hq, Int.add_mul, Int.mul_comm (2 ^ (63 - s.toNat)) (2 ^ s.toNat), hm, ← hq]
    rw [Int.mul_assoc, Int.mul_neg_one, Int.neg_mul, Int.mul_neg]
    omega
  rw [hx, hd]
  generalize ((pq n s + 9223372036854775808) / 18446744073709551616) * -1 * 2 ^ s.toNat = g
  have hw : IntKind.u64.wrap (wrap64 (n - n % 2 ^ s.toNat + 9223372036854775808 + 18446744073709551616 * g)) = IntKind.u64.wrap (n - n % 2 ^ s.toNat + 9223372036854775808) := by
    rw [IntKind.wrap_u64, IntKind.wrap_u64]; unfold wrap64; omega
  rw [hw]
  generalize n % 2 ^ s.toNat = r at *
  have h := xor_top ((n - r + 9223372036854775808) % 18446744073709551616).toNat (by omega)
  rw [IntKind.wrap_u64, u64_xor _ _ (by omega) (by omega) (by omega) (by omega), show ((9223372036854775808 : Int)).toNat = 9223372036854775808 from rfl, h]
  unfold wrap64
  omega
end Go.Proofs.YtkhmomagjkdcdaaDoor
