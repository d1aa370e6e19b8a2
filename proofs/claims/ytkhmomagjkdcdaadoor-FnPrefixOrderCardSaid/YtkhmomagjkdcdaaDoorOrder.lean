/- The order of the bytes of coded numbers is that of the numbers without their lowest bits. Conditions: int64 numbers, a shift of at most 63. -/
import Derived.Test.YtkhmomagjkdcdaaDoorPre
import Derived.Laws.BytesArg
set_option linter.unusedVariables false
set_option linter.unusedSimpArgs false
namespace Go.Proofs.YtkhmomagjkdcdaaDoor
open Go.RowKit

/-- j digits of a number to the base 128, the highest first. -/
def digs (q : Int) : Nat → List Int
  | 0 => []
  | j + 1 => (q / 128 ^ j % 128) :: digs q j

theorem digs_range (q : Int) (j : Nat) : ∀ x ∈ digs q j, 0 ≤ x ∧ x < 128 := by
  induction j with
  | zero => intro x hx; cases hx
  | succ j ih =>
    intro x hx
    rcases List.mem_cons.1 hx with rfl | h
    · omega
    · exact ih x h

def u8s (l : List Int) : List UInt8 := l.map fun n => UInt8.ofNat n.toNat

theorem u8_lt (x y : Int) (hx : 0 ≤ x ∧ x < 128) (hy : 0 ≤ y ∧ y < 128) : (UInt8.ofNat x.toNat < UInt8.ofNat y.toNat) = (x < y) := by
  rw [UInt8.lt_iff_toNat_lt]
  simp
  omega
theorem u8_eq (x y : Int) (hx : 0 ≤ x ∧ x < 128) (hy : 0 ≤ y ∧ y < 128) : (UInt8.ofNat x.toNat = UInt8.ofNat y.toNat) = (x = y) := by
  rw [← UInt8.toNat_inj]
  simp
  omega

theorem split_dig (x : Int) (j : Nat) : x % 128 ^ (j + 1) = x / 128 ^ j % 128 * 128 ^ j + x % 128 ^ j := by
  have hp : (0 : Int) < 128 ^ j := Int.pow_pos (by omega)
  have e1 := Int.ediv_mul_add_emod x (128 ^ j)
  have e2 := Int.ediv_mul_add_emod (x / 128 ^ j) 128
  have e3 : x / 128 ^ j / 128 = x / 128 ^ (j + 1) := by rw [Int.pow_succ, Int.ediv_ediv_of_nonneg (Int.le_of_lt hp)]
  have e4 := Int.ediv_mul_add_emod x (128 ^ (j + 1))
  rw [e3] at e2
  have hP : (128 : Int) ^ (j + 1) = 128 ^ j * 128 := Int.pow_succ _ _
  generalize x / 128 ^ (j + 1) = A at *
  generalize x % 128 ^ (j + 1) = M at *
  generalize x / 128 ^ j % 128 = d at *
  generalize x / 128 ^ j = B at *
  subst e2
  rw [Int.add_mul, Int.mul_assoc, Int.mul_comm 128 (128 ^ j)] at e1
  rw [hP] at e4
  omega

theorem digs_less (x y : Int) (j : Nat) : Op.bytesLess (u8s (digs x j)) (u8s (digs y j)) = decide (x % 128 ^ j < y % 128 ^ j) ∧ (u8s (digs x j) = u8s (digs y j) ↔ x % 128 ^ j = y % 128 ^ j) := by
  induction j with
  | zero => simp [digs, u8s, Op.bytesLess]
  | succ j ih =>
    have hp : (0 : Int) < 128 ^ j := Int.pow_pos (by omega)
    have hx := split_dig x j
    have hy := split_dig y j
    have ax := Int.emod_nonneg x (show (128 : Int) ^ j ≠ 0 by omega)
    have ay := Int.emod_nonneg y (show (128 : Int) ^ j ≠ 0 by omega)
    have bx := Int.emod_lt_of_pos x hp
    have bz := Int.emod_lt_of_pos y hp
    have dx : 0 ≤ x / 128 ^ j % 128 ∧ x / 128 ^ j % 128 < 128 := by omega
    have dy : 0 ≤ y / 128 ^ j % 128 ∧ y / 128 ^ j % 128 < 128 := by omega
    have e1 := u8_lt _ _ dx dy
    have e2 := u8_eq _ _ dx dy
    obtain ⟨i1, i2⟩ := ih
    rw [hx, hy]
    simp only [digs, u8s, List.map_cons, Op.bytesLess, List.cons.injEq] at i1 i2 ⊢
    rw [i1, i2, e2]
    generalize x / 128 ^ j % 128 = a at *
    generalize y / 128 ^ j % 128 = b at *
    generalize x % 128 ^ j = c at *
    generalize y % 128 ^ j = d at *
    generalize (128 : Int) ^ j = p at *
    clear i1 i2 hx hy
    rcases Int.lt_trichotomy a b with h | h | h
    · have : (a + 1) * p ≤ b * p := Int.mul_le_mul_of_nonneg_right (by omega) (by omega)
      rw [Int.add_mul] at this
      refine ⟨?_, ?_⟩
      · have hl : decide (UInt8.ofNat a.toNat < UInt8.ofNat b.toNat) = true := by rw [decide_eq_true_eq, e1]; exact h
        rw [hl]; simp; omega
      · constructor <;> intro k <;> omega
    · subst h
      refine ⟨?_, ?_⟩
      · have hl : decide (UInt8.ofNat a.toNat < UInt8.ofNat a.toNat) = false := by rw [decide_eq_false_iff_not, e1]; omega
        rw [hl]; simp
      · constructor <;> intro k <;> omega
    · have : (b + 1) * p ≤ a * p := Int.mul_le_mul_of_nonneg_right (by omega) (by omega)
      rw [Int.add_mul] at this
      refine ⟨?_, ?_⟩
      · have hl : decide (UInt8.ofNat a.toNat < UInt8.ofNat b.toNat) = false := by rw [decide_eq_false_iff_not, e1]; omega
        have hm : (UInt8.ofNat a.toNat == UInt8.ofNat b.toNat) = false := by rw [beq_eq_false_iff_ne]; intro hh; rw [e2] at hh; omega
        rw [hl, hm]; simp; omega
      · constructor <;> intro k <;> omega

theorem digs_eq (q : Int) (j : Nat) : digs q j = (List.range j).map fun i => q / 128 ^ (j - 1 - i) % 128 := by
  induction j with
  | zero => rfl
  | succ j ih =>
    rw [digs, ih, List.range_succ_eq_map, List.map_cons, List.map_map]
    refine congr (congrArg _ rfl) ?_
    apply List.map_congr_left
    intro i hi
    show _ = q / 128 ^ (j + 1 - 1 - (i + 1)) % 128
    rw [show j + 1 - 1 - (i + 1) = j - 1 - i by omega]

theorem pbytes_digs (n s : Int) : pbytes n s = (32 + s) :: digs (pq n s) (pk s + 1) := by
  unfold pbytes
  rw [digs_eq, List.range_succ_eq_map, List.map_cons, List.map_map]
  refine congr (congrArg _ (by simp [pbyte])) ?_
  apply List.map_congr_left
  intro i hi
  show pbyte n s (pk s) (i + 1) = _
  unfold pbyte
  rw [if_neg (by omega), show pk s + 1 - (i + 1) = pk s + 1 - 1 - i by omega]

theorem pq_lt (n s : Int) (hn0 : -9223372036854775808 ≤ n) (hn1 : n ≤ 9223372036854775807) (hs0 : 0 ≤ s) (hs1 : s ≤ 63) : pq n s % 128 ^ (pk s + 1) = pq n s := by
  have ⟨hk, _⟩ := pk_is s hs0 hs1
  refine Int.emod_eq_of_lt (pq_range n s hn0 hn1).1 ?_
  unfold pq
  refine Int.ediv_lt_of_lt_mul (Int.pow_pos (by omega)) ?_
  have h : (2 : Int) ^ 64 ≤ 128 ^ (pk s + 1) * 2 ^ s.toNat := by
    rw [show (128 : Int) = 2 ^ 7 from rfl, ← Int.pow_mul, ← Int.pow_add]
    have := Nat.pow_le_pow_right (show 2 > 0 by decide) (show 64 ≤ 7 * (pk s + 1) + s.toNat by omega)
    exact_mod_cast this
  have : (2 : Int) ^ 64 = 18446744073709551616 := rfl
  omega

theorem pq_shift (n s : Int) (hs1 : s ≤ 63) : pq n s = n / 2 ^ s.toNat + 2 ^ (63 - s.toNat) := by
  have hp : (0 : Int) < 2 ^ s.toNat := Int.pow_pos (by omega)
  have hm : (2 : Int) ^ s.toNat * 2 ^ (63 - s.toNat) = 9223372036854775808 := by
    rw [← Int.pow_add, show s.toNat + (63 - s.toNat) = 63 by omega]; rfl
  unfold pq
  rw [← hm, Int.add_mul_ediv_left _ _ (by omega)]

theorem pbytes_order (m n s : Int) (hm0 : -9223372036854775808 ≤ m) (hm1 : m ≤ 9223372036854775807) (hn0 : -9223372036854775808 ≤ n) (hn1 : n ≤ 9223372036854775807) (hs0 : 0 ≤ s) (hs1 : s ≤ 63) :
    Op.bytesLess (u8s (pbytes m s)) (u8s (pbytes n s)) = decide (m / 2 ^ s.toNat < n / 2 ^ s.toNat) ∧ (u8s (pbytes m s) = u8s (pbytes n s) ↔ m / 2 ^ s.toNat = n / 2 ^ s.toNat) := by
  obtain ⟨h1, h2⟩ := digs_less (pq m s) (pq n s) (pk s + 1)
  rw [pq_lt m s hm0 hm1 hs0 hs1, pq_lt n s hn0 hn1 hs0 hs1, pq_shift m s hs1, pq_shift n s hs1] at h1 h2
  rw [pbytes_digs, pbytes_digs, pq_shift m s hs1, pq_shift n s hs1]
  simp only [u8s, List.map_cons, Op.bytesLess, List.cons.injEq, true_and] at h1 h2 ⊢
  rw [h1, h2]
  refine ⟨?_, by omega⟩
  simp
end Go.Proofs.YtkhmomagjkdcdaaDoor
