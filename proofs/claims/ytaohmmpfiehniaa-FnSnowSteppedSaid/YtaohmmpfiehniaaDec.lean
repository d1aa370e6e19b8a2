/- Plain law: what is written is read: the code points of a text made of valid ones. -/
import Derived.Test.YtaohmmpfiehniaaEnds
import Derived.Lib.DecodeN
set_option linter.unusedVariables false
set_option linter.unusedSimpArgs false
namespace Go.Proofs.Ytaohmmpfiehniaa
open Go.RowKit

theorem dn1 (l b1 b2 b3 n : Nat) (h : n < 128) : Lib.decodeN l n b1 b2 b3 = (n, 1) := by unfold Lib.decodeN; rw [if_pos h]
theorem dn2 (l b2 b3 n : Nat) (h1 : ¬ n < 128) (h2 : n < 2048) (hl : 1 < l) : Lib.decodeN l (192 + n / 64) (128 + n % 64) b2 b3 = (n, 2) := by
  unfold Lib.decodeN
  rw [if_neg (by omega), if_pos (by omega), if_pos (by omega)]
  congr 1; omega
theorem dn3 (l b3 n : Nat) (h1 : ¬ n < 2048) (h2 : n < 65536) (hv : n < 55296 ∨ 57344 ≤ n) (hl : 2 < l) : Lib.decodeN l (224 + n / 4096) (128 + n / 64 % 64) (128 + n % 64) b3 = (n, 3) := by
  unfold Lib.decodeN
  rw [if_neg (by omega), if_neg (by omega), if_pos (by omega), if_pos (by omega)]
  congr 1; omega
theorem dn4 (l n : Nat) (h1 : ¬ n < 65536) (h2 : n ≤ 1114111) (hl : 3 < l) : Lib.decodeN l (240 + n / 262144) (128 + n / 4096 % 64) (128 + n / 64 % 64) (128 + n % 64) = (n, 4) := by
  unfold Lib.decodeN
  rw [if_neg (by omega), if_neg (by omega), if_neg (by omega), if_pos (by omega), if_pos (by omega)]
  congr 1; omega

theorem nat_u8 (k : Nat) (hk : k < 256) : (UInt8.ofNat k).toNat = k := by simp; omega
set_option maxRecDepth 100000 in
theorem dec_enc (n : Nat) (hv : (n < 55296) ∨ (57344 ≤ n ∧ n ≤ 1114111)) (X : List UInt8) : Lib.decodeL (enc n ++ X) = (n, (enc n).length) := by
  rw [Lib.decodeL_N]
  by_cases h1 : n < 128
  · have he : enc n = [UInt8.ofNat n] := Go.Extern.FmtText.enc1 n h1
    rw [he]
    simp only [List.cons_append, List.nil_append, List.getD_cons_zero, List.getD_cons_succ, List.length_cons, List.length_nil]
    rw [nat_u8 n (by omega)]
    exact dn1 _ _ _ _ n h1
  · by_cases h2 : n < 2048
    · have he : enc n = [UInt8.ofNat (192 + n / 64), UInt8.ofNat (128 + n % 64)] := Go.Extern.FmtText.enc2 n h1 h2
      rw [he]
      simp only [List.cons_append, List.nil_append, List.getD_cons_zero, List.getD_cons_succ, List.length_cons, List.length_nil]
      rw [nat_u8 _ (by omega), nat_u8 _ (by omega)]
      exact dn2 _ _ _ n h1 h2 (by omega)
    · by_cases h3 : n < 65536
      · have he : enc n = [UInt8.ofNat (224 + n / 4096), UInt8.ofNat (128 + n / 64 % 64), UInt8.ofNat (128 + n % 64)] := Go.Extern.FmtText.enc3 n h2 h3 (by omega)
        rw [he]
        simp only [List.cons_append, List.nil_append, List.getD_cons_zero, List.getD_cons_succ, List.length_cons, List.length_nil]
        rw [nat_u8 _ (by omega), nat_u8 _ (by omega), nat_u8 _ (by omega)]
        exact dn3 _ _ n h2 h3 (by omega) (by omega)
      · have he : enc n = [UInt8.ofNat (240 + n / 262144), UInt8.ofNat (128 + n / 4096 % 64), UInt8.ofNat (128 + n / 64 % 64), UInt8.ofNat (128 + n % 64)] := Go.Extern.FmtText.enc4 n h3 (by omega)
        rw [he]
        simp only [List.cons_append, List.nil_append, List.getD_cons_zero, List.getD_cons_succ, List.length_cons, List.length_nil]
        rw [nat_u8 _ (by omega), nat_u8 _ (by omega), nat_u8 _ (by omega), nat_u8 _ (by omega)]
        exact dn4 _ n h3 (by omega) (by omega)
end Go.Proofs.Ytaohmmpfiehniaa
