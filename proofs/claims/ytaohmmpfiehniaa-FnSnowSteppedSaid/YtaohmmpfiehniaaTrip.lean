/- A text without the replacement character: its code points, written anew, are the text. -/
import Derived.Test.YtaohmmpfiehniaaUtf
import Derived.Stop.FmtQuoteTie
import Derived.Lib.MapLaws
set_option linter.unusedVariables false
set_option linter.unusedSimpArgs false
namespace Go.Proofs.Ytaohmmpfiehniaa
open Go.RowKit

theorem rune_valid (s : ByteArray) (pos : Nat) (h : pos < s.size) (hv : (Utf8.decode s pos).1 ≠ 65533) : Lib.encodeRune ((Utf8.decode s pos).1 : Int) = (s.data.toList.drop pos).take (Utf8.decode s pos).2 := by
  have hd := Lib.decodeL_drop s pos
  have := Lib.encode_decode (s.data.toList.drop pos) (by intro e; have := congrArg List.length e; simp at this; have hz : s.size = s.data.size := rfl; omega) (by rw [hd]; exact fun h => hv h.1)
  rw [hd] at this
  exact this

theorem encode_rune (r : Nat) : (Utf8.encode (r : Int)).data.toList = Lib.encodeRune (r : Int) := by
  unfold Lib.encodeRune
  rw [← Go.Extern.FmtText.encode_eq r]
  unfold Go.Extern.FmtText.nums
  rw [List.map_map]
  have : ∀ l : List UInt8, l.map ((fun x : Int => x.toNat.toUInt8) ∘ fun b : UInt8 => (b.toNat : Int)) = l := by
    intro l
    induction l with
    | nil => rfl
    | cons b l ih => rw [List.map_cons, ih]; simp
  exact (this _).symm

theorem foldl_bytes : ∀ (ns : List Int) (acc : ByteArray), (ns.foldl (fun r n => r ++ Utf8.encode n) acc).data.toList = acc.data.toList ++ ns.flatMap fun n => (Utf8.encode n).data.toList
  | [], acc => by simp
  | n :: ns, acc => by
    rw [List.foldl_cons, foldl_bytes ns]
    simp [List.append_assoc]

theorem trip_from (s : ByteArray) : ∀ f pos, s.size ≤ f + pos → (65533 : Int) ∉ rl s f pos → (rl s f pos).flatMap (fun n => (Utf8.encode n).data.toList) = s.data.toList.drop pos
  | 0, pos, h, _ => by
    simp only [rl, List.flatMap_nil]
    rw [List.drop_of_length_le]; have hz : s.size = s.data.toList.length := by rw [Array.length_toList]; rfl
    omega
  | f + 1, pos, h, hn => by
    by_cases hp : pos < s.size
    · have hn' : (65533 : Int) ≠ ((Utf8.decode s pos).1 : Int) ∧ (65533 : Int) ∉ rl s f (pos + (Utf8.decode s pos).2) := by simpa [rl, hp] using hn
      have hw := Lib.decode_width_pos s pos hp
      have e : rl s (f + 1) pos = ((Utf8.decode s pos).1 : Int) :: rl s f (pos + (Utf8.decode s pos).2) := by simp [rl, hp]
      rw [e, List.flatMap_cons, trip_from s f _ (by omega) hn'.2, encode_rune, rune_valid s pos hp (fun hh => hn'.1 (by rw [hh]; rfl)), ← List.drop_drop, List.take_append_drop]
    · rw [rl_end s _ _ hp]
      simp only [List.flatMap_nil]
      rw [List.drop_of_length_le]; have hz : s.size = s.data.toList.length := by rw [Array.length_toList]; rfl
      omega

/-- ████ A whole text's code points, written anew, are the text. -/
theorem trip (s : ByteArray) (h : (65533 : Int) ∉ runesOf s) : runesBytes (runesOf s) = s := by
  have h1 : (runesBytes (runesOf s)).data.toList = s.data.toList := by
    unfold runesBytes
    rw [foldl_bytes]
    have := trip_from s s.size 0 (by omega) h
    unfold runesOf
    rw [this]; simp
  have h2 : (runesBytes (runesOf s)).data = s.data := Array.toList_inj.1 h1
  cases hs : s; cases hr : runesBytes (runesOf s); simp_all
end Go.Proofs.Ytaohmmpfiehniaa
