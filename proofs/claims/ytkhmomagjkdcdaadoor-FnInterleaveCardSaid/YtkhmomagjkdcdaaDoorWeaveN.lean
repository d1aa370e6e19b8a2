/- Plain arithmetic: the bits of two numbers of 32 bits alternate in one, and come apart again. Condition: both numbers are below 2^32. -/
import Derived.WalkKit
import Derived.Laws.BitsAllLaws
set_option linter.unusedVariables false
set_option linter.unusedSimpArgs false
namespace Go.Proofs.YtkhmomagjkdcdaaDoor

def stN (c m x : Nat) : Nat := (x ||| (x * c) % 18446744073709551616) &&& m
def spN (x : Nat) : Nat := stN 2 6148914691236517205 (stN 4 3689348814741910323 (stN 16 1085102592571150095 (stN 256 71777214294589695 (stN 65536 281470681808895 x))))
def dtN (c m x : Nat) : Nat := (x ^^^ x / c) &&& m
def deN (x : Nat) : Nat := dtN 65536 4294967295 (dtN 256 281470681808895 (dtN 16 71777214294589695 (dtN 4 1085102592571150095 (dtN 2 3689348814741910323 (x &&& 6148914691236517205)))))

theorem stN_or (s m x y : Nat) : stN (2 ^ s) m (x ||| y) = stN (2 ^ s) m x ||| stN (2 ^ s) m y := by
  apply Nat.eq_of_testBit_eq
  intro i
  unfold stN
  rw [show 18446744073709551616 = 2 ^ 64 from rfl, ← Nat.shiftLeft_eq, ← Nat.shiftLeft_eq, ← Nat.shiftLeft_eq]
  simp only [Nat.testBit_and, Nat.testBit_or, Nat.testBit_mod_two_pow, Nat.testBit_shiftLeft]
  generalize x.testBit i = a
  generalize y.testBit i = b
  generalize x.testBit (i - s) = c
  generalize y.testBit (i - s) = d
  generalize m.testBit i = e
  generalize decide (i < 64) = f
  generalize decide (s ≤ i) = g
  revert a b c d e f g
  decide

theorem dtN_xor (s m x y : Nat) : dtN (2 ^ s) m (x ^^^ y) = dtN (2 ^ s) m x ^^^ dtN (2 ^ s) m y := by
  apply Nat.eq_of_testBit_eq
  intro i
  unfold dtN
  simp only [Nat.testBit_and, Nat.testBit_xor, Nat.testBit_div_two_pow]
  generalize x.testBit i = a
  generalize y.testBit i = b
  generalize x.testBit (i + s) = c
  generalize y.testBit (i + s) = d
  generalize m.testBit i = e
  revert a b c d e
  decide

theorem spN_or (x y : Nat) : spN (x ||| y) = spN x ||| spN y := by
  unfold spN
  rw [stN_or 16, stN_or 8, stN_or 4, stN_or 2, stN_or 1]

theorem deN_xor (x y : Nat) : deN (x ^^^ y) = deN x ^^^ deN y := by
  unfold deN
  rw [Nat.and_xor_distrib_right, dtN_xor 1, dtN_xor 2, dtN_xor 4, dtN_xor 8, dtN_xor 16]

theorem spN_bit : ∀ k, k < 32 → ∀ d, d < 2 → spN (d * 2 ^ k) = d * 2 ^ (2 * k) := by decide +kernel
theorem deN_bit : ∀ k, k < 32 → ∀ d, d < 2 → deN (d * 2 ^ (2 * k)) = d * 2 ^ k := by decide +kernel

theorem mod_next (a k : Nat) : a % 2 ^ (k + 1) = a / 2 ^ k % 2 * 2 ^ k ||| a % 2 ^ k := by
  have hp : 0 < 2 ^ k := Nat.pow_pos (by omega)
  rw [nat_join k _ _ (by simp) (Nat.mod_lt _ hp), Nat.pow_succ, Nat.mod_mul, Nat.mul_comm (2 ^ k), Nat.add_comm]

theorem spN_next (a k : Nat) (hk : k < 32) : spN (a % 2 ^ (k + 1)) = a / 2 ^ k % 2 * 2 ^ (2 * k) ||| spN (a % 2 ^ k) := by
  rw [mod_next, spN_or, spN_bit k hk _ (Nat.mod_lt _ (by omega))]

theorem spN_lt (a : Nat) : ∀ k, k ≤ 32 → spN (a % 2 ^ k) < 2 ^ (2 * k) := by
  intro k
  induction k with
  | zero => intro _; rw [Nat.pow_zero, Nat.mod_one]; decide
  | succ k ih =>
    intro hk
    rw [spN_next a k (by omega)]
    have h1 := ih (by omega)
    have h2 : a / 2 ^ k % 2 * 2 ^ (2 * k) ≤ 1 * 2 ^ (2 * k) := Nat.mul_le_mul_right _ (by omega)
    have h3 : 2 ^ (2 * (k + 1)) = 4 * 2 ^ (2 * k) := by rw [show 2 * (k + 1) = 2 * k + 2 by omega, Nat.pow_add]; omega
    have hp : 0 < 2 ^ (2 * k) := Nat.pow_pos (by omega)
    exact Nat.or_lt_two_pow (by omega) (by omega)

theorem or_is_xor (i x d : Nat) (hx : x < 2 ^ i) : d * 2 ^ i ||| x = d * 2 ^ i ^^^ x := by
  apply Nat.eq_of_testBit_eq
  intro j
  rw [Nat.testBit_or, Nat.testBit_xor, Nat.testBit_mul_two_pow]
  by_cases h : i ≤ j
  · have : x.testBit j = false := Nat.testBit_lt_two_pow (Nat.lt_of_lt_of_le hx (Nat.pow_le_pow_right (by omega) h))
    simp [this]
  · simp [h]

theorem deN_spN (a : Nat) : ∀ k, k ≤ 32 → deN (spN (a % 2 ^ k)) = a % 2 ^ k := by
  intro k
  induction k with
  | zero => intro _; rw [Nat.pow_zero, Nat.mod_one]; decide
  | succ k ih =>
    intro hk
    rw [spN_next a k (by omega), or_is_xor _ _ _ (spN_lt a k (by omega)), deN_xor, ih (by omega), deN_bit k (by omega) _ (Nat.mod_lt _ (by omega)), mod_next, or_is_xor _ _ _ (Nat.mod_lt _ (Nat.pow_pos (by omega)))]

/-- What the reference has woven behind k rounds. -/
def wv (a b : Nat) : Nat → Nat
  | 0 => 0
  | k + 1 => wv a b k ||| (a / 2 ^ k % 2 * 2 ^ (2 * k) ||| b / 2 ^ k % 2 * 2 ^ (2 * k + 1))

theorem wv_eq (a b : Nat) : ∀ k, k ≤ 32 → wv a b k = spN (a % 2 ^ k) ||| 2 * spN (b % 2 ^ k) := by
  intro k
  induction k with
  | zero => intro _; rw [Nat.pow_zero, Nat.mod_one, Nat.mod_one]; show 0 = spN 0 ||| 2 * spN 0; decide
  | succ k ih =>
    intro hk
    rw [wv, ih (by omega), spN_next a k (by omega), spN_next b k (by omega)]
    have h2 : ∀ x y : Nat, 2 * (x ||| y) = 2 * x ||| 2 * y := fun x y => by
      have := Nat.shiftLeft_or_distrib (a := x) (b := y) (i := 1)
      simpa [Nat.shiftLeft_eq, Nat.mul_comm] using this
    rw [h2, show 2 * (b / 2 ^ k % 2 * 2 ^ (2 * k)) = b / 2 ^ k % 2 * 2 ^ (2 * k + 1) by rw [Nat.pow_succ, Nat.mul_comm 2, Nat.mul_assoc]]
    generalize spN (a % 2 ^ k) = A
    generalize 2 * spN (b % 2 ^ k) = B
    generalize a / 2 ^ k % 2 * 2 ^ (2 * k) = C
    generalize b / 2 ^ k % 2 * 2 ^ (2 * k + 1) = D
    apply Nat.eq_of_testBit_eq
    intro i
    simp only [Nat.testBit_or]
    generalize A.testBit i = x
    generalize B.testBit i = y
    generalize C.testBit i = z
    generalize D.testBit i = u
    revert x y z u
    decide

theorem wv_whole (a b : Nat) (ha : a < 4294967296) (hb : b < 4294967296) : wv a b 32 = spN a ||| 2 * spN b := by
  rw [wv_eq a b 32 (by omega), Nat.mod_eq_of_lt ha, Nat.mod_eq_of_lt hb]

theorem spN_mask (x : Nat) : spN x = spN x &&& 6148914691236517205 := by
  unfold spN
  generalize stN 4 3689348814741910323 (stN 16 1085102592571150095 (stN 256 71777214294589695 (stN 65536 281470681808895 x))) = y
  unfold stN
  rw [Nat.and_assoc, Nat.and_self]

theorem mask_even : ∀ i, Nat.testBit 6148914691236517205 i = (decide (i < 64) && decide (i % 2 = 0)) := by
  intro i
  by_cases h : i < 64
  · have : ∀ i, i < 64 → Nat.testBit 6148914691236517205 i = (decide (i < 64) && decide (i % 2 = 0)) := by decide +kernel
    exact this i h
  · rw [Nat.testBit_lt_two_pow (Nat.lt_of_lt_of_le (show 6148914691236517205 < 2 ^ 64 by decide) (Nat.pow_le_pow_right (by omega) (Nat.le_of_not_lt h)))]
    simp [h]

theorem odd_gone (x y : Nat) : (spN x ||| 2 * spN y) &&& 6148914691236517205 = spN x := by
  rw [Nat.and_or_distrib_right, ← spN_mask]
  have : 2 * spN y &&& 6148914691236517205 = 0 := by
    rw [spN_mask]
    apply Nat.eq_of_testBit_eq
    intro i
    rw [show 2 * (spN y &&& 6148914691236517205) = (spN y &&& 6148914691236517205) <<< 1 by rw [Nat.shiftLeft_eq]; omega]
    rw [Nat.testBit_and, Nat.testBit_shiftLeft, Nat.testBit_and, mask_even, mask_even, Nat.zero_testBit]
    by_cases h : 1 ≤ i
    · by_cases e : i % 2 = 0
      · have : ¬ (i - 1) % 2 = 0 := by omega
        simp [this]
      · simp [e]
    · simp [h]
  rw [this, Nat.or_zero]

theorem even_gone (x y : Nat) : (spN x ||| 2 * spN y) / 2 &&& 6148914691236517205 = spN y := by
  have h : (spN x ||| 2 * spN y) / 2 = spN x / 2 ||| spN y := by
    have := Nat.or_div_two (a := spN x) (b := 2 * spN y)
    rw [this]
    congr 1
    omega
  rw [h, Nat.and_or_distrib_right, ← spN_mask]
  have : spN x / 2 &&& 6148914691236517205 = 0 := by
    rw [spN_mask]
    apply Nat.eq_of_testBit_eq
    intro i
    rw [Nat.testBit_and, Nat.testBit_div_two, Nat.testBit_and, mask_even, mask_even, Nat.zero_testBit]
    by_cases e : i % 2 = 0
    · have : ¬ (i + 1) % 2 = 0 := by omega
      simp [this]
    · simp [e]
  rw [this, Nat.zero_or]

theorem deN_mask (x : Nat) : deN x = deN (x &&& 6148914691236517205) := by unfold deN; rw [Nat.and_assoc, Nat.and_self]

theorem de_first (a b : Nat) (ha : a < 4294967296) : deN (spN a ||| 2 * spN b) = a := by
  rw [deN_mask, odd_gone]
  have := deN_spN a 32 (by omega)
  rwa [Nat.mod_eq_of_lt ha] at this
theorem de_second (a b : Nat) (hb : b < 4294967296) : deN ((spN a ||| 2 * spN b) / 2) = b := by
  rw [deN_mask, even_gone]
  have := deN_spN b 32 (by omega)
  rwa [Nat.mod_eq_of_lt hb] at this
theorem spN_small (a : Nat) (ha : a < 4294967296) : 2 * spN a < 18446744073709551616 := by
  have h : spN a ≤ 6148914691236517205 := by rw [spN_mask]; exact Nat.and_le_right
  omega
end Go.Proofs.YtkhmomagjkdcdaaDoor
