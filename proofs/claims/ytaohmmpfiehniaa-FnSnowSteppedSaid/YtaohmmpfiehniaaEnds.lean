/- Plain law: two whole texts: one begins, or ends, with the other by its bytes if, and only if, it does so by its code points. -/
import Derived.Test.YtaohmmpfiehniaaTrip
set_option linter.unusedVariables false
set_option linter.unusedSimpArgs false
namespace Go.Proofs.Ytaohmmpfiehniaa
open Go.RowKit

/-- A code point's bytes. -/
def enc (n : Int) : List UInt8 := (Utf8.encode n).data.toList
/-- A byte that begins no code point. -/
def contB (b : UInt8) : Prop := 128 ≤ b.toNat ∧ b.toNat < 192

theorem enc_shape (n : Int) : ∃ b r, enc n = b :: r ∧ ¬ contB b ∧ ∀ c ∈ r, contB c := by
  unfold enc Utf8.encode
  simp only
  generalize hc : (if Utf8.valid n = true then n.toNat else Utf8.runeError) = c
  have hle : c ≤ 1114111 := by
    rw [← hc]; split
    · rename_i hv; simp [Utf8.valid] at hv; omega
    · simp [Utf8.runeError]
  have e : ∀ k : Nat, k < 256 → (UInt8.ofNat k).toNat = k := fun k hk => by simp; omega
  split
  · exact ⟨_, [], rfl, by unfold contB; rw [e _ (by omega)]; omega, by simp⟩
  · split
    · exact ⟨_, _, rfl, by unfold contB; rw [e _ (by omega)]; omega, by
        intro d hd; simp only [List.mem_cons, List.not_mem_nil, or_false] at hd; subst hd; unfold contB; rw [e _ (by omega)]; omega⟩
    · split
      · exact ⟨_, _, rfl, by unfold contB; rw [e _ (by omega)]; omega, by
          intro d hd; simp only [List.mem_cons, List.not_mem_nil, or_false] at hd
          rcases hd with rfl | rfl <;> (unfold contB; rw [e _ (by omega)]; omega)⟩
      · exact ⟨_, _, rfl, by unfold contB; rw [e _ (by omega)]; omega, by
          intro d hd; simp only [List.mem_cons, List.not_mem_nil, or_false] at hd
          rcases hd with rfl | rfl | rfl <;> (unfold contB; rw [e _ (by omega)]; omega)⟩

/-- Where a text is cut ahead of a byte that may begin a code point, it is cut between code points. -/
theorem cut_at : ∀ (rs : List Int) (u t : List UInt8), rs.flatMap enc = u ++ t → (∀ b r, t = b :: r → ¬ contB b) → ∃ j, u = (rs.take j).flatMap enc ∧ t = (rs.drop j).flatMap enc
  | [], u, t, h, _ => by
    have h' : u ++ t = [] := h.symm
    obtain ⟨rfl, rfl⟩ := List.append_eq_nil_iff.1 h'
    exact ⟨0, rfl, rfl⟩
  | n :: rs, u, t, h, ht => by
    obtain ⟨b, r, he, hb, hr⟩ := enc_shape n
    rw [List.flatMap_cons] at h
    rcases List.append_eq_append_iff.1 h with ⟨a, h1, h2⟩ | ⟨a, h1, h2⟩
    · obtain ⟨j, q1, q2⟩ := cut_at rs a t h2 ht
      exact ⟨j + 1, by rw [h1, List.take_succ_cons, List.flatMap_cons, q1], by rw [List.drop_succ_cons]; exact q2⟩
    · cases u with
      | nil => exact ⟨0, rfl, by rw [List.drop_zero, List.flatMap_cons]; simpa using h.symm⟩
      | cons x u =>
        cases a with
        | nil =>
          rw [List.append_nil] at h1
          exact ⟨1, by rw [List.take_succ_cons, List.take_zero]; simp [h1], by rw [List.drop_succ_cons, List.drop_zero]; simpa using h2⟩
        | cons y a =>
          exfalso
          rw [he] at h1
          have hy : y ∈ r := by
            injection h1 with _ h1
            rw [h1]; simp
          exact ht y (a ++ rs.flatMap enc) (by rw [h2]; rfl) (hr y hy)

theorem bytes_eq (rs : List Int) : (runesBytes rs).data.toList = rs.flatMap enc := by
  unfold runesBytes; rw [foldl_bytes]; rfl

/-- How many bytes follow a first byte. -/
def more (b : UInt8) : Nat := if b.toNat < 128 then 0 else if b.toNat < 224 then 1 else if b.toNat < 240 then 2 else 3
theorem enc_len (n : Int) : ∃ b r, enc n = b :: r ∧ r.length = more b := by
  unfold enc Utf8.encode
  simp only
  generalize hc : (if Utf8.valid n = true then n.toNat else Utf8.runeError) = c
  have hle : c ≤ 1114111 := by
    rw [← hc]; split
    · rename_i hv; simp [Utf8.valid] at hv; omega
    · simp [Utf8.runeError]
  have e : ∀ k : Nat, k < 256 → (UInt8.ofNat k).toNat = k := fun k hk => by simp; omega
  split
  · exact ⟨_, [], rfl, by unfold more; rw [e _ (by omega), if_pos (by omega)]; rfl⟩
  · split
    · exact ⟨_, _, rfl, by unfold more; rw [e _ (by omega), if_neg (by omega), if_pos (by omega)]; rfl⟩
    · split
      · exact ⟨_, _, rfl, by unfold more; rw [e _ (by omega), if_neg (by omega), if_neg (by omega), if_pos (by omega)]; rfl⟩
      · exact ⟨_, _, rfl, by unfold more; rw [e _ (by omega), if_neg (by omega), if_neg (by omega), if_neg (by omega)]; rfl⟩

theorem enc_split {n m : Int} {x y : List UInt8} (h : enc n ++ x = enc m ++ y) : enc n = enc m ∧ x = y := by
  obtain ⟨b, r, h1, l1⟩ := enc_len n
  obtain ⟨c, q, h2, l2⟩ := enc_len m
  rw [h1, h2, List.cons_append, List.cons_append] at h
  injection h with hb hr
  subst hb
  have := List.append_inj hr (by omega)
  rw [h1, h2, this.1]
  exact ⟨rfl, this.2⟩

theorem ofNat_inj {x y : Nat} (hx : x < 256) (hy : y < 256) (h : UInt8.ofNat x = UInt8.ofNat y) : x = y := by
  have := congrArg UInt8.toNat h
  simp at this
  omega

theorem enc_inj {a b : Int} (va : Utf8.valid a = true) (vb : Utf8.valid b = true) (h : enc a = enc b) : a = b := by
  have ha := va
  have hb := vb
  simp [Utf8.valid] at ha hb
  unfold enc Utf8.encode at h
  simp only [va, vb, if_true] at h
  split at h <;> split at h <;> (try split at h) <;> (try split at h) <;> (try split at h) <;> (try split at h) <;> simp only [List.cons.injEq, List.cons_ne_nil, List.nil_eq, reduceCtorEq, and_false, false_and, and_true] at h
  all_goals first
    | (have p := ofNat_inj (by omega) (by omega) h; omega)
    | (have p := ofNat_inj (by omega) (by omega) h.1; have q := ofNat_inj (by omega) (by omega) h.2; omega)
    | (have p := ofNat_inj (by omega) (by omega) h.1; have q := ofNat_inj (by omega) (by omega) h.2.1; have r := ofNat_inj (by omega) (by omega) h.2.2; omega)
    | (have p := ofNat_inj (by omega) (by omega) h.1; have q := ofNat_inj (by omega) (by omega) h.2.1; have r := ofNat_inj (by omega) (by omega) h.2.2.1; have t := ofNat_inj (by omega) (by omega) h.2.2.2; omega)
    | exact h.elim

def Valids (rs : List Int) : Prop := ∀ n ∈ rs, Utf8.valid n = true

theorem flat_inj : ∀ {rs ts : List Int}, Valids rs → Valids ts → rs.flatMap enc = ts.flatMap enc → rs = ts
  | [], [], _, _, _ => rfl
  | [], n :: ts, _, _, h => by obtain ⟨b, r, he, _⟩ := enc_len n; rw [List.flatMap_cons, he] at h; simp at h
  | n :: rs, [], _, _, h => by obtain ⟨b, r, he, _⟩ := enc_len n; rw [List.flatMap_cons, he] at h; simp at h
  | n :: rs, m :: ts, hr, ht, h => by
    rw [List.flatMap_cons, List.flatMap_cons] at h
    obtain ⟨h1, h2⟩ := enc_split h
    rw [enc_inj (hr n (by simp)) (ht m (by simp)) h1, flat_inj (fun k hk => hr k (by simp [hk])) (fun k hk => ht k (by simp [hk])) h2]

/-- ████ By its end. -/
theorem ends_iff {rs ts : List Int} (hr : Valids rs) (ht : Valids ts) : ts.flatMap enc <:+ rs.flatMap enc ↔ ts <:+ rs := by
  constructor
  · rintro ⟨u, hu⟩
    obtain ⟨j, _, h2⟩ := cut_at rs u (ts.flatMap enc) hu.symm (by
      intro b r h
      cases ts with
      | nil => simp at h
      | cons n ts =>
        obtain ⟨c, q, he, hc, _⟩ := enc_shape n
        rw [List.flatMap_cons, he, List.cons_append] at h
        injection h with h1 _
        rw [← h1]; exact hc)
    have := flat_inj ht (fun k hk => hr k (List.mem_of_mem_drop hk)) h2
    rw [this]
    exact List.drop_suffix j rs
  · rintro ⟨u, rfl⟩
    exact ⟨u.flatMap enc, by rw [List.flatMap_append]⟩

/-- ████ By its beginning. -/
theorem begins_iff : ∀ {rs ts : List Int}, Valids rs → Valids ts → (ts.flatMap enc <+: rs.flatMap enc ↔ ts <+: rs)
  | rs, [], _, _ => by simp
  | [], n :: ts, _, _ => by
    obtain ⟨b, r, he, _⟩ := enc_len n
    constructor
    · intro h; rw [List.flatMap_cons, he] at h; simp at h
    · intro h; simp at h
  | m :: rs, n :: ts, hr, ht => by
    have ih := begins_iff (rs := rs) (ts := ts) (fun k hk => hr k (by simp [hk])) (fun k hk => ht k (by simp [hk]))
    constructor
    · rintro ⟨u, hu⟩
      rw [List.flatMap_cons, List.flatMap_cons, List.append_assoc] at hu
      obtain ⟨h1, h2⟩ := enc_split hu
      rw [enc_inj (ht n (by simp)) (hr m (by simp)) h1]
      exact List.cons_prefix_cons.2 ⟨rfl, ih.1 ⟨u, h2⟩⟩
    · intro h
      obtain ⟨rfl, h2⟩ := List.cons_prefix_cons.1 h
      obtain ⟨u, hu⟩ := ih.2 h2
      exact ⟨u, by rw [List.flatMap_cons, List.flatMap_cons, List.append_assoc, hu]⟩

theorem decode_valid (s : ByteArray) (i : Nat) : Utf8.valid ((Utf8.decode s i).1 : Int) = true := by
  have hsmall : ∀ c : Nat, c < 55296 → Utf8.valid (c : Int) = true := fun c hc => by simp [Utf8.valid]; omega
  have herr : Utf8.valid ((Utf8.runeError : Nat) : Int) = true := by decide
  have hlt : ∀ k, (s.get! k).toNat < 256 := fun k => UInt8.toNat_lt _
  have h0 := hlt (i + 0)
  have h1 := hlt (i + 1)
  have h2 := hlt (i + 2)
  have h3 := hlt (i + 3)
  unfold Utf8.decode
  simp only
  split
  · exact hsmall _ (by omega)
  · split
    · split
      · exact hsmall _ (by omega)
      · exact herr
    · split
      · split
        · rename_i hv; simp only [Bool.and_eq_true, decide_eq_true_eq] at hv; exact hv.2
        · exact herr
      · split
        · split
          · rename_i hv; simp only [Bool.and_eq_true, decide_eq_true_eq] at hv; exact hv.2
          · exact herr
        · exact herr

theorem valids_rl (s : ByteArray) : ∀ f pos, Valids (rl s f pos)
  | 0, pos => by intro n hn; simp [rl] at hn
  | f + 1, pos => by
    intro n hn
    unfold rl at hn
    split at hn
    · rcases List.mem_cons.1 hn with rfl | hn
      · exact decode_valid s pos
      · exact valids_rl s f _ n hn
    · simp at hn
theorem valids_of (s : ByteArray) : Valids (runesOf s) := valids_rl s _ _
theorem flat_of (s : ByteArray) (h : (65533 : Int) ∉ runesOf s) : (runesOf s).flatMap enc = s.data.toList := by
  have := bytes_eq (runesOf s)
  rw [trip s h] at this
  exact this.symm

/-- ████ Of two whole texts. -/
theorem text_ends {s t : ByteArray} (hs : (65533 : Int) ∉ runesOf s) (ht : (65533 : Int) ∉ runesOf t) : t.data.toList <:+ s.data.toList ↔ runesOf t <:+ runesOf s := by
  rw [← flat_of s hs, ← flat_of t ht]; exact ends_iff (valids_of s) (valids_of t)
theorem text_begins {s t : ByteArray} (hs : (65533 : Int) ∉ runesOf s) (ht : (65533 : Int) ∉ runesOf t) : t.data.toList <+: s.data.toList ↔ runesOf t <+: runesOf s := by
  rw [← flat_of s hs, ← flat_of t ht]; exact begins_iff (valids_of s) (valids_of t)
end Go.Proofs.Ytaohmmpfiehniaa
