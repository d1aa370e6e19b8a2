/- Plain law: the code points of a text made of valid ones. -/
import Derived.Test.YtaohmmpfiehniaaDec
set_option linter.unusedVariables false
set_option linter.unusedSimpArgs false
namespace Go.Proofs.Ytaohmmpfiehniaa
open Go.RowKit

theorem flat_len : ∀ rs : List Int, rs.length ≤ (rs.flatMap enc).length
  | [] => by simp
  | n :: rs => by
    obtain ⟨b, r, he, _⟩ := enc_len n
    have := flat_len rs
    rw [List.flatMap_cons, List.length_append, he]
    simp only [List.length_cons]; omega
theorem rl_flat (s : ByteArray) : ∀ (rs : List Int) (f pos : Nat), Valids rs → s.data.toList.drop pos = rs.flatMap enc → rs.length ≤ f → rl s f pos = rs
  | [], f, pos, _, h, _ => by
    have hl := congrArg List.length h
    have hz : s.size = s.data.toList.length := by rw [Array.length_toList]; rfl
    rw [List.length_drop] at hl
    exact rl_end s f pos (by simp only [List.flatMap_nil, List.length_nil] at hl; omega)
  | n :: rs, 0, pos, _, _, hf => by simp at hf
  | n :: rs, f + 1, pos, hv, h, hf => by
    obtain ⟨b, r, he, _⟩ := enc_len n
    have hz : s.size = s.data.toList.length := by rw [Array.length_toList]; rfl
    have hl := congrArg List.length h
    rw [List.length_drop, List.flatMap_cons, List.length_append, he, List.length_cons] at hl
    have hp : pos < s.size := by omega
    have hn := hv n (by simp)
    have hn2 : (0 ≤ n ∧ n < 55296) ∨ (57344 ≤ n ∧ n ≤ 1114111) := by simpa [Utf8.valid] using hn
    obtain ⟨k, rfl⟩ := Int.eq_ofNat_of_zero_le (show 0 ≤ n by omega)
    have hd : Utf8.decode s pos = (k, (enc (k : Int)).length) := by
      rw [← Lib.decodeL_drop, h, List.flatMap_cons]
      exact dec_enc k (by omega) _
    have e : rl s (f + 1) pos = ((Utf8.decode s pos).1 : Int) :: rl s f (pos + (Utf8.decode s pos).2) := by simp [rl, hp]
    rw [e, hd]
    have := rl_flat s rs f (pos + (enc (k : Int)).length) (fun m hm => hv m (by simp [hm])) (by rw [← List.drop_drop, h, List.flatMap_cons, List.drop_left]) (by simp at hf; omega)
    rw [this]
/-- ████ What is written is read. -/
theorem runes_back (rs : List Int) (hv : Valids rs) : runesOf (runesBytes rs) = rs := by
  have hb := bytes_eq rs
  have hz : (runesBytes rs).size = (runesBytes rs).data.toList.length := by rw [Array.length_toList]; rfl
  exact rl_flat _ rs _ 0 hv (by rw [List.drop_zero]; exact hb) (by rw [hz, hb]; exact flat_len rs)
end Go.Proofs.Ytaohmmpfiehniaa
