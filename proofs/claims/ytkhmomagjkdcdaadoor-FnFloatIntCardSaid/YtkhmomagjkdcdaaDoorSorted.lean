/- Plain arithmetic of float64 bits: the smaller float has the smaller whole number, where the bits of a float that is not negative are its whole number, and of a negative one all bits but the sign are turned. Condition: both are 64 bits. -/
import Derived.WalkKit
import Derived.Laws.BitsAllLaws
import GoSem.Core.Float
set_option linter.unusedVariables false
set_option linter.unusedSimpArgs false
namespace Go.Proofs.YtkhmomagjkdcdaaDoor
open Go.RowKit

/-- The magnitude of a rung, in units of the least place. -/
def fUp (r : Nat) : Nat := r / 4503599627370496 - 1
def fMag (r : Nat) : Nat := if r < 4503599627370496 then r else 4503599627370496 + r % 4503599627370496
def fVal (r : Nat) : Nat := fMag r * 2 ^ fUp r

theorem fVal_mono {r s : Nat} (h : r ≤ s) : fVal r ≤ fVal s := by
  unfold fVal fMag
  by_cases h1 : s < 4503599627370496
  · have e1 : fUp r = 0 := by unfold fUp; omega
    have e2 : fUp s = 0 := by unfold fUp; omega
    rw [if_pos (by omega), if_pos h1, e1, e2]
    omega
  · rw [if_neg h1]
    have hp : 1 ≤ 2 ^ fUp s := Nat.pow_pos (by omega)
    by_cases h2 : r < 4503599627370496
    · have e1 : fUp r = 0 := by unfold fUp; omega
      rw [if_pos h2, e1]
      have := Nat.mul_le_mul_left (4503599627370496 + s % 4503599627370496) hp
      omega
    · rw [if_neg h2]
      by_cases h3 : r / 4503599627370496 = s / 4503599627370496
      · have e1 : fUp r = fUp s := by unfold fUp; omega
        rw [e1]
        exact Nat.mul_le_mul_right _ (by omega)
      · have h4 : fUp r + 1 ≤ fUp s := by unfold fUp; omega
        have e1 : (4503599627370496 + r % 4503599627370496) * 2 ^ fUp r ≤ (4503599627370496 * 2) * 2 ^ fUp r := Nat.mul_le_mul_right _ (by omega)
        have e2 : 2 ^ (fUp r + 1) ≤ 2 ^ fUp s := Nat.pow_le_pow_right (by omega) h4
        have e3 : 4503599627370496 * 2 ^ (fUp r + 1) ≤ (4503599627370496 + s % 4503599627370496) * 2 ^ fUp s := Nat.mul_le_mul (by omega) e2
        rw [Nat.pow_succ, Nat.mul_comm (2 ^ fUp r) 2, ← Nat.mul_assoc] at e3
        exact Nat.le_trans e1 e3

/-- The whole number that stands for 64 bits. -/
def fSort (a : Nat) : Int := if a < 9223372036854775808 then (a : Int) else -1 - ((a - 9223372036854775808 : Nat) : Int)

theorem read_num (a : Nat) (h : a % 9223372036854775808 < 9218868437227405312) :
    Ieee.double.read a = .number (a / 9223372036854775808 % 2 == 1) (fMag (a % 9223372036854775808)) (-1074 + (fUp (a % 9223372036854775808) : Nat)) := by
  have e1 : Ieee.double.signWeight = 9223372036854775808 := by decide +kernel
  have e2 : Ieee.double.binade = 4503599627370496 := by decide +kernel
  have e3 : Ieee.double.infRung = 9218868437227405312 := by decide +kernel
  have e4 : Ieee.double.leastPlace = -1074 := by decide +kernel
  unfold Ieee.Format.read
  simp only [e1, e2, e3, e4]
  generalize a % 9223372036854775808 = r at *
  by_cases h1 : r < 4503599627370496
  · have e5 : fUp r = 0 := by unfold fUp; omega
    rw [if_pos h1, e5]
    unfold fMag
    rw [if_pos h1]
    simp
  · rw [if_neg h1, if_pos h]
    unfold fMag fUp
    rw [if_neg h1]

theorem read_inf (a : Nat) (h : a % 9223372036854775808 = 9218868437227405312) : Ieee.double.read a = .infinity (a / 9223372036854775808 % 2 == 1) := by
  have e1 : Ieee.double.signWeight = 9223372036854775808 := by decide +kernel
  have e2 : Ieee.double.binade = 4503599627370496 := by decide +kernel
  have e3 : Ieee.double.infRung = 9218868437227405312 := by decide +kernel
  unfold Ieee.Format.read
  simp only [e1, e2, e3, h]
  rw [if_neg (by decide), if_neg (by decide), if_pos trivial]
theorem read_nan (a : Nat) (h : 9218868437227405312 < a % 9223372036854775808) : ∃ f, Ieee.double.read a = .nan (a / 9223372036854775808 % 2 == 1) f := by
  have e1 : Ieee.double.signWeight = 9223372036854775808 := by decide +kernel
  have e2 : Ieee.double.binade = 4503599627370496 := by decide +kernel
  have e3 : Ieee.double.infRung = 9218868437227405312 := by decide +kernel
  unfold Ieee.Format.read
  simp only [e1, e2, e3]
  rw [if_neg (by omega), if_neg (by omega), if_neg (by omega)]
  exact ⟨_, rfl⟩

theorem shift_back (m u k : Nat) (h : k ≤ u) : m <<< (u - k) * 2 ^ k = m * 2 ^ u := by
  rw [Nat.shiftLeft_eq, Nat.mul_assoc, ← Nat.pow_add, Nat.sub_add_cancel h]

/-- Two magnitudes shifted to a common place stand to each other as their values. -/
theorem shifts_lt (m n u v : Nat) : m <<< (u - min u v) < n <<< (v - min u v) ↔ m * 2 ^ u < n * 2 ^ v := by
  have hp : 0 < 2 ^ min u v := Nat.pow_pos (by omega)
  rw [← shift_back m u (min u v) (Nat.min_le_left _ _), ← shift_back n v (min u v) (Nat.min_le_right _ _)]
  exact (Nat.mul_lt_mul_right hp).symm

theorem cmp_lt (x y : Int) (h : (some (compare x y) == some Ordering.lt) = true) : x < y := by
  have h1 : compare x y = .lt := by simpa using h
  simp only [compare, compareOfLessAndEq] at h1
  split at h1
  · assumption
  · split at h1 <;> cases h1

theorem places (u v : Nat) : ((-1074 + (u : Int)) - min (-1074 + (u : Int)) (-1074 + (v : Int))).toNat = u - min u v ∧ ((-1074 + (v : Int)) - min (-1074 + (u : Int)) (-1074 + (v : Int))).toNat = v - min u v := by
  omega

theorem order_sorted (a b : Nat) (ha : a < 18446744073709551616) (hb : b < 18446744073709551616) (h : (Ieee.double.order a b == some Ordering.lt) = true) : fSort a < fSort b := by
  unfold Ieee.Format.order at h
  have na : (a / 9223372036854775808 % 2 == 1) = decide (9223372036854775808 ≤ a) := by
    by_cases k : 9223372036854775808 ≤ a
    · rw [decide_eq_true k, beq_iff_eq]; omega
    · rw [decide_eq_false k, beq_eq_false_iff_ne]; omega
  have nb : (b / 9223372036854775808 % 2 == 1) = decide (9223372036854775808 ≤ b) := by
    by_cases k : 9223372036854775808 ≤ b
    · rw [decide_eq_true k, beq_iff_eq]; omega
    · rw [decide_eq_false k, beq_eq_false_iff_ne]; omega
  rcases Nat.lt_trichotomy (a % 9223372036854775808) 9218868437227405312 with ka | ka | ka
  · rw [read_num a ka, na] at h
    rcases Nat.lt_trichotomy (b % 9223372036854775808) 9218868437227405312 with kb | kb | kb
    · rw [read_num b kb, nb] at h
      simp only [Ieee.Datum.order] at h
      rw [(places _ _).1, (places _ _).2] at h
      have hl := cmp_lt _ _ h
      unfold Ieee.signed at hl
      unfold fSort
      by_cases pa : 9223372036854775808 ≤ a
      · by_cases pb : 9223372036854775808 ≤ b
        · simp only [pa, pb, decide_true, if_true] at hl
          have h2 : fMag (b % 9223372036854775808) <<< (fUp (b % 9223372036854775808) - min (fUp (a % 9223372036854775808)) (fUp (b % 9223372036854775808))) < fMag (a % 9223372036854775808) <<< (fUp (a % 9223372036854775808) - min (fUp (a % 9223372036854775808)) (fUp (b % 9223372036854775808))) := by omega
          rw [Nat.min_comm] at h2
          have h3 := (shifts_lt _ _ _ _).1 h2
          have h4 : ¬ a % 9223372036854775808 ≤ b % 9223372036854775808 := fun hh => by have := fVal_mono hh; unfold fVal at this; omega
          rw [if_neg (by omega), if_neg (by omega)]
          omega
        · rw [if_neg (by omega), if_pos (by omega)]; omega
      · by_cases pb : 9223372036854775808 ≤ b
        · simp only [pa, pb, decide_true, decide_false, if_true, Bool.false_eq_true, if_false] at hl
          generalize fMag (a % 9223372036854775808) <<< (fUp (a % 9223372036854775808) - min (fUp (a % 9223372036854775808)) (fUp (b % 9223372036854775808))) = p at hl
          generalize fMag (b % 9223372036854775808) <<< (fUp (b % 9223372036854775808) - min (fUp (a % 9223372036854775808)) (fUp (b % 9223372036854775808))) = q at hl
          omega
        · simp only [pa, pb, decide_false, Bool.false_eq_true, if_false] at hl
          have h2 : fMag (a % 9223372036854775808) <<< (fUp (a % 9223372036854775808) - min (fUp (a % 9223372036854775808)) (fUp (b % 9223372036854775808))) < fMag (b % 9223372036854775808) <<< (fUp (b % 9223372036854775808) - min (fUp (a % 9223372036854775808)) (fUp (b % 9223372036854775808))) := by omega
          have h3 := (shifts_lt _ _ _ _).1 h2
          have h4 : ¬ b % 9223372036854775808 ≤ a % 9223372036854775808 := fun hh => by have := fVal_mono hh; unfold fVal at this; omega
          rw [if_pos (by omega), if_pos (by omega)]
          omega
    · rw [read_inf b kb, nb] at h
      simp only [Ieee.Datum.order] at h
      unfold fSort
      by_cases pb : 9223372036854775808 ≤ b
      · simp [pb] at h
      · rw [if_pos (show b < 9223372036854775808 by omega)]
        split <;> omega
    · obtain ⟨f, hf⟩ := read_nan b kb
      rw [hf] at h
      simp [Ieee.Datum.order] at h
  · rw [read_inf a ka, na] at h
    rcases Nat.lt_trichotomy (b % 9223372036854775808) 9218868437227405312 with kb | kb | kb
    · rw [read_num b kb, nb] at h
      simp only [Ieee.Datum.order] at h
      unfold fSort
      by_cases pa : 9223372036854775808 ≤ a
      · rw [if_neg (show ¬ a < 9223372036854775808 by omega)]
        split <;> omega
      · simp [pa] at h
    · rw [read_inf b kb, nb] at h
      simp only [Ieee.Datum.order] at h
      unfold fSort
      by_cases pa : 9223372036854775808 ≤ a
      · by_cases pb : 9223372036854775808 ≤ b
        · simp [pa, pb] at h
        · rw [if_neg (by omega), if_pos (by omega)]; omega
      · by_cases pb : 9223372036854775808 ≤ b
        · simp [pa, pb] at h
          cases h
        · simp [pa, pb] at h
    · obtain ⟨f, hf⟩ := read_nan b kb
      rw [hf] at h
      simp [Ieee.Datum.order] at h
  · obtain ⟨f, hf⟩ := read_nan a ka
    rw [hf] at h
    simp [Ieee.Datum.order] at h

theorem xor_low (a : Nat) (h : a < 18446744073709551616) : a ^^^ 9223372036854775807 = a / 9223372036854775808 * 9223372036854775808 + (9223372036854775807 - a % 9223372036854775808) := by
  have hr : a % 9223372036854775808 < 9223372036854775808 := Nat.mod_lt _ (by omega)
  have hq : a / 9223372036854775808 < 2 := by omega
  have e : a = 2 ^ 63 * (a / 9223372036854775808) + a % 9223372036854775808 := by have : (2 : Nat) ^ 63 = 9223372036854775808 := rfl; omega
  have key : ∀ q r, q < 2 → r < 2 ^ 63 → (2 ^ 63 * q + r) ^^^ (2 ^ 63 - 1) = 2 ^ 63 * q + (2 ^ 63 - (r + 1)) := by
    intro q r hq hr
    have hs : 2 ^ 63 - (r + 1) < 2 ^ 63 := by omega
    apply Nat.eq_of_testBit_eq
    intro i
    rw [Nat.testBit_xor, Nat.testBit_two_pow_mul_add q hr, Nat.testBit_two_pow_mul_add q hs, Nat.testBit_two_pow_sub_one]
    by_cases hi : i < 63
    · rw [if_pos hi, if_pos hi, Nat.testBit_two_pow_sub_succ hr]
      simp [hi]
    · rw [if_neg hi, if_neg hi]
      simp [hi]
  have k := key (a / 9223372036854775808) (a % 9223372036854775808) hq hr
  rw [← e] at k
  have c : (2 : Nat) ^ 63 = 9223372036854775808 := rfl
  rw [c] at k
  rw [show (9223372036854775807 : Nat) = 9223372036854775808 - 1 from rfl, k]
  omega

theorem bits_xor_i64 (x y : Int) : bits .xor .i64 x y = wrap64 (((x % 18446744073709551616).toNat ^^^ (y % 18446744073709551616).toNat : Nat) : Int) := by
  show IntKind.i64.wrap ((BitVec.ofInt 64 x ^^^ BitVec.ofInt 64 y).toNat : Int) = _
  have h : ∀ z : Int, (BitVec.ofInt 64 z).toNat = (z % 18446744073709551616).toNat := fun z => by simp [BitVec.toNat_ofInt]
  rw [BitVec.toNat_xor, h, h, IntKind.wrap_i64]
  unfold wrap64
  omega

theorem sort_low (N : Nat) (h : N < 9223372036854775808) : wrap64 (N : Int) = fSort N := by
  unfold fSort wrap64; rw [if_pos h]; omega
theorem sort_high (N : Nat) (h0 : 9223372036854775808 ≤ N) (h1 : N < 18446744073709551616) : bits .xor .i64 (wrap64 (N : Int)) 9223372036854775807 = fSort N := by
  have e1 : (wrap64 (N : Int) % 18446744073709551616).toNat = N := by unfold wrap64; omega
  have e2 : ((9223372036854775807 : Int) % 18446744073709551616).toNat = 9223372036854775807 := by decide
  rw [bits_xor_i64, e1, e2, xor_low N h1]
  unfold fSort wrap64
  rw [if_neg (by omega)]
  omega
theorem sort_spec (N : Nat) (h0 : 9223372036854775808 ≤ N) (h1 : N < 18446744073709551616) : wrap64 (bits .xor .u64 (N : Int) 9223372036854775807) = fSort N := by
  rw [show (9223372036854775807 : Int) = ((9223372036854775807 : Nat) : Int) from rfl, u64_xor_nat _ _ h1 (by omega), xor_low N h1]
  unfold fSort wrap64
  rw [if_neg (by omega)]
  omega
theorem fSort_sign (N : Nat) (h1 : N < 18446744073709551616) : (fSort N < 0 ↔ 9223372036854775808 ≤ N) ∧ -9223372036854775808 ≤ fSort N ∧ fSort N ≤ 9223372036854775807 := by
  unfold fSort; split <;> omega
theorem unsort_low (N : Nat) (h : N < 9223372036854775808) : IntKind.u64.wrap (fSort N) = (N : Int) := by
  rw [IntKind.wrap_u64]; unfold fSort; rw [if_pos h]; omega
theorem unsort_high (N : Nat) (h0 : 9223372036854775808 ≤ N) (h1 : N < 18446744073709551616) : IntKind.u64.wrap (bits .xor .i64 (fSort N) 9223372036854775807) = (N : Int) := by
  have e1 : (fSort N % 18446744073709551616).toNat = 27670116110564327423 - N := by unfold fSort; rw [if_neg (by omega)]; omega
  have e2 : ((9223372036854775807 : Int) % 18446744073709551616).toNat = 9223372036854775807 := by decide
  rw [bits_xor_i64, e1, e2, xor_low _ (by omega), IntKind.wrap_u64]
  unfold wrap64
  omega
end Go.Proofs.YtkhmomagjkdcdaaDoor
