/- Plain law: a text of valid code points: its bytes, the places between them, what utf8 reads there. -/
import Derived.Test.YtbfelpgojgaeoaaDoorLib
import Derived.Stop.FmtQuoteTie
import Derived.Lib.MapLaws
import Derived.Lib.DecodeN
import Derived.Lib.ValidLaws
import Derived.Lib.RuneCount
import Derived.Shelf.Spec.DecodeRune
import Derived.Lib.SpaceUEq
set_option linter.unusedVariables false
set_option linter.unusedSimpArgs false
set_option maxRecDepth 100000
namespace Go.Proofs.YtbfelpgojgaeoaaDoor
open Go.RowKit

/-- A code point's bytes. -/
def enc (n : Nat) : List UInt8 := (Utf8.encode (n : Int)).data.toList
/-- A code point. -/
def V (n : Nat) : Prop := n < 55296 ∨ (57344 ≤ n ∧ n ≤ 1114111)

theorem encode_rune (r : Nat) : enc r = Lib.encodeRune (r : Int) := by
  unfold enc Lib.encodeRune
  rw [← Go.Extern.FmtText.encode_eq r]
  unfold Go.Extern.FmtText.nums
  rw [List.map_map]
  have : ∀ l : List UInt8, l.map ((fun x : Int => x.toNat.toUInt8) ∘ fun b : UInt8 => (b.toNat : Int)) = l := by
    intro l
    induction l with
    | nil => rfl
    | cons b l ih => rw [List.map_cons, ih]; simp
  exact (this _).symm

theorem dn1 (l b1 b2 b3 n : Nat) (h : n < 128) : Lib.decodeN l n b1 b2 b3 = (n, 1) := by unfold Lib.decodeN; rw [if_pos h]
theorem dn2 (l b2 b3 n : Nat) (h1 : ¬ n < 128) (h2 : n < 2048) (hl : 1 < l) : Lib.decodeN l (192 + n / 64) (128 + n % 64) b2 b3 = (n, 2) := by
  unfold Lib.decodeN
  rw [if_neg (by omega), if_pos (by omega), if_pos (by omega)]
  congr 1; omega
theorem dn3 (l b3 n : Nat) (h1 : ¬ n < 2048) (h2 : n < 65536) (hv : n < 55296 ∨ 57344 ≤ n) (hl : 2 < l) : Lib.decodeN l (224 + n / 4096) (128 + n / 64 % 64) (128 + n % 64) b3 = (n, 3) := by
  unfold Lib.decodeN
  rw [if_neg (by omega), if_neg (by omega), if_pos (by omega), if_pos (by omega)]
  congr 1; omega
theorem dn4 (l n : Nat) (h1 : ¬ n < 65536) (h2 : n ≤ 1114111) (hl : 3 < l) : Lib.decodeN l (240 + n / 262144) (128 + n / 4096 % 64) (128 + n / 64 % 64) (128 + n % 64) = (n, 4) := by
  unfold Lib.decodeN
  rw [if_neg (by omega), if_neg (by omega), if_neg (by omega), if_pos (by omega), if_pos (by omega)]
  congr 1; omega

theorem nat_u8 (k : Nat) (hk : k < 256) : (UInt8.ofNat k).toNat = k := by simp; omega
/-- The bytes of a code point. -/
theorem enc_cases (n : Nat) (hv : V n) : (n < 128 ∧ enc n = [UInt8.ofNat n]) ∨ (¬ n < 128 ∧ n < 2048 ∧ enc n = [UInt8.ofNat (192 + n / 64), UInt8.ofNat (128 + n % 64)]) ∨
    (¬ n < 2048 ∧ n < 65536 ∧ enc n = [UInt8.ofNat (224 + n / 4096), UInt8.ofNat (128 + n / 64 % 64), UInt8.ofNat (128 + n % 64)]) ∨
    (¬ n < 65536 ∧ enc n = [UInt8.ofNat (240 + n / 262144), UInt8.ofNat (128 + n / 4096 % 64), UInt8.ofNat (128 + n / 64 % 64), UInt8.ofNat (128 + n % 64)]) := by
  unfold V at hv
  by_cases h1 : n < 128
  · exact .inl ⟨h1, Go.Extern.FmtText.enc1 n h1⟩
  · by_cases h2 : n < 2048
    · exact .inr (.inl ⟨h1, h2, Go.Extern.FmtText.enc2 n h1 h2⟩)
    · by_cases h3 : n < 65536
      · exact .inr (.inr (.inl ⟨h2, h3, Go.Extern.FmtText.enc3 n h2 h3 (by omega)⟩))
      · exact .inr (.inr (.inr ⟨h3, Go.Extern.FmtText.enc4 n h3 (by omega)⟩))

theorem dec_enc (n : Nat) (hv : V n) (X : List UInt8) : Lib.decodeL (enc n ++ X) = (n, (enc n).length) := by
  rw [Lib.decodeL_N]
  have hv' := hv
  unfold V at hv'
  rcases enc_cases n hv with ⟨h1, he⟩ | ⟨h1, h2, he⟩ | ⟨h1, h2, he⟩ | ⟨h1, he⟩ <;> rw [he] <;>
    simp only [List.cons_append, List.nil_append, List.getD_cons_zero, List.getD_cons_succ, List.length_cons, List.length_nil]
  · rw [nat_u8 n (by omega)]
    exact dn1 _ _ _ _ n h1
  · rw [nat_u8 _ (by omega), nat_u8 _ (by omega)]
    exact dn2 _ _ _ n h1 h2 (by omega)
  · rw [nat_u8 _ (by omega), nat_u8 _ (by omega), nat_u8 _ (by omega)]
    exact dn3 _ _ n h1 h2 (by omega) (by omega)
  · rw [nat_u8 _ (by omega), nat_u8 _ (by omega), nat_u8 _ (by omega), nat_u8 _ (by omega)]
    exact dn4 _ n h1 (by omega) (by omega)

theorem enc_pos (n : Nat) (hv : V n) : 1 ≤ (enc n).length := by
  rcases enc_cases n hv with ⟨h1, he⟩ | ⟨h1, h2, he⟩ | ⟨h1, h2, he⟩ | ⟨h1, he⟩ <;> rw [he] <;> simp

theorem startB (k : Nat) (hk : k < 256) : Lib.runeStartB (UInt8.ofNat k) = (k / 64 != 2) := by unfold Lib.runeStartB; rw [nat_u8 k hk]
theorem last4 (t : List UInt8) (c0 c1 c2 c3 : UInt8) (h3 : 128 ≤ c3.toNat) (h2 : Lib.runeStartB c2 = false) (h1 : Lib.runeStartB c1 = false) (h0 : Lib.runeStartB c0 = true) (hd : (Lib.decodeL [c0, c1, c2, c3]).2 = 4) : Lib.decodeLastL (t ++ [c0, c1, c2, c3]) = Lib.decodeL [c0, c1, c2, c3] := by
  have g1 := Lib.getD_app_end t [c0, c1, c2, c3] 1 (by omega) (by simp)
  have g2 := Lib.getD_app_end t [c0, c1, c2, c3] 2 (by omega) (by simp)
  have g3 := Lib.getD_app_end t [c0, c1, c2, c3] 3 (by omega) (by simp)
  have g4 := Lib.getD_app_end t [c0, c1, c2, c3] 4 (by omega) (by simp)
  have hl : (t ++ [c0, c1, c2, c3]).length = t.length + 4 := by simp
  have hs : Lib.lastStart (t ++ [c0, c1, c2, c3]) = (t ++ [c0, c1, c2, c3]).length - 4 := by
    unfold Lib.lastStart
    simp only [g2, g3, g4]
    rw [if_neg (by omega)]
    simp only [List.length_cons, List.length_nil, List.getD_cons_succ, List.getD_cons_zero, Nat.reduceAdd, Nat.reduceSub, h1, h0, h2, Bool.false_eq_true, if_false, if_true]
    rw [if_neg (by omega), if_neg (by omega)]
  have hdrop := Lib.drop_app_end t [c0, c1, c2, c3]
  unfold Lib.decodeLastL
  rw [if_neg (by simp), g1, if_neg (by simp; omega), hs]
  simp only [List.length_cons, List.length_nil] at hdrop
  simp only [hdrop, hd]
  rw [if_pos (by omega)]

theorem last_enc (n : Nat) (hv : V n) (X : List UInt8) : Lib.decodeLastL (X ++ enc n) = (n, (enc n).length) := by
  have hd := dec_enc n hv []
  rw [List.append_nil] at hd
  have hv' := hv
  unfold V at hv'
  rcases enc_cases n hv with ⟨h1, he⟩ | ⟨h1, h2, he⟩ | ⟨h1, h2, he⟩ | ⟨h1, he⟩ <;> rw [he] at hd ⊢
  · rw [Lib.decodeLastL_ascii X _ (by rw [nat_u8 _ (by omega)]; omega), nat_u8 _ (by omega)]; rfl
  · rw [Lib.last2 X _ _ (by rw [nat_u8 _ (by omega)]; omega) (by rw [startB _ (by omega)]; simp; omega) (by rw [hd]; rfl), hd]
  · rw [Lib.last3 X _ _ _ (by rw [nat_u8 _ (by omega)]; omega) (by rw [startB _ (by omega)]; simp; omega) (by rw [startB _ (by omega)]; simp; omega) (by rw [hd]; rfl), hd]
  · rw [last4 X _ _ _ _ (by rw [nat_u8 _ (by omega)]; omega) (by rw [startB _ (by omega)]; simp; omega) (by rw [startB _ (by omega)]; simp; omega) (by rw [startB _ (by omega)]; simp; omega) (by rw [hd]; rfl), hd]

theorem decode_valid (s : ByteArray) (i : Nat) : V (Utf8.decode s i).1 := by
  have hsmall : ∀ c : Nat, c < 55296 → V c := fun c hc => .inl hc
  have herr : V Utf8.runeError := by unfold V; decide
  have hok : ∀ c : Nat, Utf8.valid (c : Int) = true → V c := fun c hc => by unfold V; simp [Utf8.valid] at hc; omega
  have hlt : ∀ k, (s.get! k).toNat < 256 := fun k => UInt8.toNat_lt _
  have h0 := hlt (i + 0)
  have h1 := hlt (i + 1)
  have h2 := hlt (i + 2)
  have h3 := hlt (i + 3)
  unfold Utf8.decode
  simp only
  split
  · exact hsmall _ (by omega)
  · split
    · split
      · exact hsmall _ (by omega)
      · exact herr
    · split
      · split
        · rename_i hv; simp only [Bool.and_eq_true, decide_eq_true_eq] at hv; exact hok _ hv.2
        · exact herr
      · split
        · split
          · rename_i hv; simp only [Bool.and_eq_true, decide_eq_true_eq] at hv; exact hok _ hv.2
          · exact herr
        · exact herr

def Vs (rs : List Nat) : Prop := ∀ n ∈ rs, V n
def fl (rs : List Nat) : List UInt8 := rs.flatMap enc
theorem fl_cons (n : Nat) (rs : List Nat) : fl (n :: rs) = enc n ++ fl rs := rfl
theorem fl_app (xs ys : List Nat) : fl (xs ++ ys) = fl xs ++ fl ys := by unfold fl; exact List.flatMap_append

theorem valid_list : ∀ (k : Nat) (l : List UInt8), l.length ≤ k → Lib.validD l = true → ∃ rs, Vs rs ∧ fl rs = l
  | k, [], _, _ => ⟨[], by intro n hn; simp at hn, rfl⟩
  | 0, b :: l, hk, _ => by simp at hk
  | k + 1, b :: l, hk, h => by
    rw [Lib.validD_step _ (by simp)] at h
    split at h
    · simp at h
    · rename_i hv
      have he := Lib.encode_decode (b :: l) (by simp) hv
      have hw := Lib.decodeL_width (b :: l)
      obtain ⟨rs, hr, hf⟩ := valid_list k _ (by rw [List.length_drop]; omega) h
      have hV : V (Lib.decodeL (b :: l)).1 := decode_valid _ _
      refine ⟨(Lib.decodeL (b :: l)).1 :: rs, ?_, ?_⟩
      · intro n hn
        rcases List.mem_cons.1 hn with rfl | hn
        · exact hV
        · exact hr n hn
      · rw [fl_cons, hf, encode_rune, he, List.take_append_drop]

theorem dec_fl (n : Nat) (rs : List Nat) (hv : V n) : Lib.decodeL (fl (n :: rs)) = (n, (enc n).length) := dec_enc n hv _
theorem fl_cons_ne (n : Nat) (rs : List Nat) (hv : V n) : fl (n :: rs) ≠ [] := by
  intro h
  have := congrArg List.length h
  rw [fl_cons, List.length_append, List.length_nil] at this
  have := enc_pos n hv
  omega

theorem fl_valid : ∀ (rs : List Nat), Vs rs → Lib.validD (fl rs) = true
  | [], _ => rfl
  | n :: rs, h => by
    have hv := h n (by simp)
    rw [Lib.validD_step _ (fl_cons_ne n rs hv), dec_fl n rs hv]
    have ih := fl_valid rs (fun m hm => h m (by simp [hm]))
    have h3 : ¬ (n = 65533 ∧ (enc n).length = 1) := by
      rintro ⟨rfl, h1⟩
      revert h1
      rcases enc_cases 65533 hv with ⟨h1, he⟩ | ⟨h1, h2, he⟩ | ⟨h1, h2, he⟩ | ⟨h1, he⟩
      · omega
      · omega
      · rw [he]; simp
      · omega
    rw [if_neg h3, fl_cons, List.drop_left]; exact ih

/-- Two rows of code points, one the beginning of the other by its bytes. -/
theorem fl_begins (ts : List Nat) : ∀ (rs : List Nat) (u : List UInt8), Vs rs → Vs ts → fl rs = fl ts ++ u → ∃ j, j ≤ rs.length ∧ ts = rs.take j ∧ u = fl (rs.drop j) := by
  induction ts with
  | nil =>
    intro rs u hr ht h
    exact ⟨0, Nat.zero_le _, rfl, by rw [List.drop_zero, h]; rfl⟩
  | cons n ts ih =>
    intro rs u hr ht h
    cases rs with
    | nil =>
      exfalso
      have := enc_pos n (ht n (by simp))
      have hl := congrArg List.length h
      rw [fl_cons, List.length_append, List.length_append, show fl [] = [] from rfl, List.length_nil] at hl
      omega
    | cons m rs =>
      have d1 := dec_fl m rs (hr m (by simp))
      rw [h, fl_cons, List.append_assoc, dec_enc n (ht n (by simp))] at d1
      have hnm : n = m := congrArg Prod.fst d1
      subst hnm
      rw [fl_cons, fl_cons, List.append_assoc] at h
      have h' := List.append_cancel_left h
      obtain ⟨j, hj, h1, h2⟩ := ih rs u (fun k hk => hr k (by simp [hk])) (fun k hk => ht k (by simp [hk])) h'
      exact ⟨j + 1, by simp; omega, by rw [List.take_succ_cons, ← h1], by rw [List.drop_succ_cons]; exact h2⟩

theorem decodeGo_list (s : ByteArray) (h : s.size ≠ 0) : Lib.decodeGo s = Lib.decodeL s.data.toList := by
  unfold Lib.decodeGo Lib.decodeL
  rw [if_neg h]
theorem sz (s : ByteArray) : s.size = s.data.toList.length := by rw [Array.length_toList]; rfl
theorem count_from (s : ByteArray) : ∀ (rs : List Nat) (f pos : Nat), Vs rs → s.data.toList.drop pos = fl rs → rs.length ≤ f → Lib.runeCountFrom s f pos = rs.length
  | [], f, pos, _, h, _ => by
    have hl := congrArg List.length h
    rw [List.length_drop] at hl
    exact Lib.runeCountFrom_end s f pos (by rw [sz]; simp [fl] at hl ⊢; omega)
  | n :: rs, 0, pos, _, _, hf => by simp at hf
  | n :: rs, f + 1, pos, hv, h, hf => by
    have hn := hv n (by simp)
    have hl := congrArg List.length h
    have hpos := enc_pos n hn
    rw [List.length_drop, fl_cons, List.length_append] at hl
    have hp : pos < s.size := by rw [sz]; omega
    have hd : Utf8.decode s pos = (n, (enc n).length) := by rw [← Lib.decodeL_drop, h]; exact dec_fl n rs hn
    have ih := count_from s rs f (pos + (enc n).length) (fun m hm => hv m (by simp [hm])) (by rw [← List.drop_drop, h, fl_cons, List.drop_left]) (by simp at hf; omega)
    unfold Lib.runeCountFrom
    rw [if_pos hp, hd, ih]
    simp; omega
theorem fl_len : ∀ rs : List Nat, Vs rs → rs.length ≤ (fl rs).length
  | [], _ => by simp
  | n :: rs, h => by
    have h1 := enc_pos n (h n (by simp))
    have := fl_len rs (fun m hm => h m (by simp [hm]))
    rw [fl_cons, List.length_append]
    simp only [List.length_cons]; omega
theorem count_fl (s : ByteArray) (rs : List Nat) (hv : Vs rs) (h : s.data.toList = fl rs) : Lib.runeCount s = rs.length :=
  count_from s rs s.size 0 hv (by rw [List.drop_zero]; exact h) (by rw [sz, h]; exact fl_len rs hv)

theorem ext_list (s : ByteArray) (a b : Nat) : (s.extract a b).data.toList = (s.data.toList.drop a).take (b - a) := by
  simp [ByteArray.data_extract, List.take_drop]
  try rw [List.extract_eq_drop_take]

/-! ### A text -/
/-- Where the code point of a number begins. -/
def off (rs : List Nat) (k : Nat) : Nat := (fl (rs.take k)).length
structure Txt (s : ByteArray) (rs : List Nat) : Prop where
  vs : Vs rs
  eq : s.data.toList = fl rs
section
variable {s : ByteArray} {rs : List Nat}
theorem off_zero (rs : List Nat) : off rs 0 = 0 := rfl
theorem Txt.size (h : Txt s rs) : s.size = off rs rs.length := by rw [sz, h.eq]; unfold off; rw [List.take_length]
theorem off_succ (rs : List Nat) (k : Nat) (hk : k < rs.length) : off rs (k + 1) = off rs k + (enc rs[k]).length := by
  unfold off
  rw [List.take_succ_eq_append_getElem hk, fl_app, List.length_append]
  simp [fl]
theorem off_lt (h : Vs rs) {k : Nat} (hk : k < rs.length) : off rs k < off rs (k + 1) := by
  rw [off_succ rs k hk]; have := enc_pos rs[k] (h _ (by simp)); omega
theorem off_mono (h : Vs rs) {i j : Nat} (hij : i ≤ j) (hj : j ≤ rs.length) : off rs i ≤ off rs j := by
  induction hij with
  | refl => exact Nat.le_refl _
  | step h1 ih => rename_i m; have := off_lt h (k := m) (by omega); have := ih (by omega); show off rs i ≤ off rs (m + 1); omega
theorem off_lt_iff (h : Vs rs) {i j : Nat} (hi : i ≤ rs.length) (hj : j ≤ rs.length) : off rs i < off rs j ↔ i < j := by
  constructor
  · intro hl
    by_cases hc : i < j
    · exact hc
    · have := off_mono h (i := j) (j := i) (by omega) hi; omega
  · intro hl
    have h1 := off_lt h (k := i) (by omega)
    have h2 := off_mono h (i := i + 1) (j := j) (by omega) hj
    omega
theorem off_le_iff (h : Vs rs) {i j : Nat} (hi : i ≤ rs.length) (hj : j ≤ rs.length) : off rs i ≤ off rs j ↔ i ≤ j := by
  have := off_lt_iff h hj hi; omega
theorem Txt.off_le (h : Txt s rs) {k : Nat} (hk : k ≤ rs.length) : off rs k ≤ s.size := by rw [h.size]; exact off_mono h.vs hk (Nat.le_refl _)
theorem Txt.drop (h : Txt s rs) (k : Nat) : s.data.toList.drop (off rs k) = fl (rs.drop k) := by
  have : fl rs = fl (rs.take k) ++ fl (rs.drop k) := by rw [← fl_app, List.take_append_drop]
  rw [h.eq, this]; unfold off; rw [List.drop_left]
theorem Txt.part (h : Txt s rs) {i j : Nat} (hij : i ≤ j) (hj : j ≤ rs.length) : (s.extract (off rs i) (off rs j)).data.toList = fl ((rs.drop i).take (j - i)) := by
  rw [ext_list, h.drop]
  have e1 : fl (rs.drop i) = fl ((rs.drop i).take (j - i)) ++ fl ((rs.drop i).drop (j - i)) := by rw [← fl_app, List.take_append_drop]
  have e2 : off rs j = off rs i + (fl ((rs.drop i).take (j - i))).length := by
    unfold off
    rw [show j = i + (j - i) by omega, List.take_add, fl_app, List.length_append]
    rw [show i + (j - i) - i = j - i by omega]
  rw [e1, e2, Nat.add_sub_cancel_left, List.take_left]
theorem Vs.part (h : Vs rs) (i j : Nat) : Vs ((rs.drop i).take j) := fun n hn => h n (List.mem_of_mem_drop (List.mem_of_mem_take hn))
theorem part_len {i j : Nat} (hij : i ≤ j) (hj : j ≤ rs.length) : ((rs.drop i).take (j - i)).length = j - i := by simp; omega

/-- What is read at a place. -/
theorem Txt.dec (h : Txt s rs) {k : Nat} (hk : k < rs.length) : Utf8.decode s (off rs k) = (rs[k], off rs (k + 1) - off rs k) := by
  rw [← Lib.decodeL_drop, h.drop, List.drop_eq_getElem_cons hk, dec_fl _ _ (h.vs _ (by simp)), off_succ rs k hk, Nat.add_sub_cancel_left]
theorem Txt.decGo (h : Txt s rs) {k : Nat} (hk : k < rs.length) : Lib.decodeGo (s.extract (off rs k) s.size) = (rs[k], off rs (k + 1) - off rs k) := by
  have hl := off_lt h.vs hk
  have := h.off_le (k := k + 1) (by omega)
  have he := ext_list s (off rs k) s.size
  rw [List.take_of_length_le (by rw [List.length_drop, ← sz]; omega)] at he
  rw [decodeGo_list _ (by rw [ByteArray.size_extract]; omega), he, Lib.decodeL_drop, h.dec hk]
theorem Txt.decLast (h : Txt s rs) {k : Nat} (hk : k < rs.length) : Lib.decodeLastL (s.extract 0 (off rs (k + 1))).data.toList = (rs[k], off rs (k + 1) - off rs k) := by
  have := h.part (i := 0) (j := k + 1) (by omega) (by omega)
  rw [off_zero] at this
  rw [this, List.drop_zero, Nat.sub_zero, List.take_succ_eq_append_getElem hk, fl_app]
  have e : fl [rs[k]] = enc rs[k] := by simp [fl]
  rw [e, last_enc _ (h.vs _ (by simp)), off_succ rs k hk, Nat.add_sub_cancel_left]
theorem Txt.count (h : Txt s rs) {i j : Nat} (hij : i ≤ j) (hj : j ≤ rs.length) : Lib.runeCount (s.extract (off rs i) (off rs j)) = j - i := by
  rw [count_fl _ _ (h.vs.part _ _) (h.part hij hj), part_len hij hj]
theorem Txt.valid (h : Txt s rs) {i j : Nat} (hij : i ≤ j) (hj : j ≤ rs.length) : Lib.validD (s.extract (off rs i) (off rs j)).data.toList = true := by
  rw [h.part hij hj]; exact fl_valid _ (h.vs.part _ _)
theorem txt_of (s : ByteArray) (h : Lib.validD s.data.toList = true) : ∃ rs, Txt s rs := by
  obtain ⟨rs, h1, h2⟩ := valid_list _ _ (Nat.le_refl _) h
  exact ⟨rs, h1, h2.symm⟩
/-- Behind a place: a whole part ends at a place. -/
theorem Txt.place (h : Txt s rs) {i b : Nat} (hi : i ≤ rs.length) (hb1 : off rs i ≤ b) (hb2 : b ≤ s.size) (hv : Lib.validD (s.extract (off rs i) b).data.toList = true) : ∃ j, i ≤ j ∧ j ≤ rs.length ∧ b = off rs j := by
  obtain ⟨ts, h1, h2⟩ := valid_list _ _ (Nat.le_refl _) hv
  rw [ext_list, h.drop] at h2
  have hV : Vs (rs.drop i) := fun n hn => h.vs n (List.mem_of_mem_drop hn)
  obtain ⟨j, hj, h3, h4⟩ := fl_begins ts (rs.drop i) ((fl (rs.drop i)).drop (b - off rs i)) hV h1 (by rw [h2, List.take_append_drop])
  rw [List.length_drop] at hj
  refine ⟨i + j, by omega, by omega, ?_⟩
  have hl := congrArg List.length h2
  have hdl := congrArg List.length (h.drop i)
  rw [List.length_drop, ← sz] at hdl
  rw [List.length_take, h3] at hl
  have e2 : off rs (i + j) = off rs i + (fl ((rs.drop i).take j)).length := by
    unfold off
    rw [List.take_add, fl_app, List.length_append]
  omega
end
end Go.Proofs.YtbfelpgojgaeoaaDoor
