/- The contracts of ValidPrefixCodedTermBytes, ValidPrefixCodedTerm, impl.PrefixValid and spec.PrefixRight: one answer of the first byte and the length. Condition: bytes of kind u8, fewer than 2^31 of them. -/
import Derived.Test.YtkhmomagjkdcdaaDoorCoded
import Derived.Lib.ConvBytes
import Derived.Laws.BytesArg
import Derived.Deep.QuietTactic
import Derived.BigQuiet
set_option linter.unusedVariables false
set_option linter.unusedSimpArgs false
namespace Go.Proofs.YtkhmomagjkdcdaaDoor
open Go.RowKit

/-- Is a first byte c a shift, and are n bytes as many as it says? -/
def vOk (c : Int) (n : Nat) : Bool := decide (0 < n ∧ 32 ≤ c ∧ c ≤ 95 ∧ (n : Int) = (63 - (c - 32)) / 7 + 2)
def vShift (c : Int) (n : Nat) : Int := if vOk c n = true then c - 32 else 0

theorem vOk_yes {c : Int} {n : Nat} (h0 : 0 < n) (h1 : 32 ≤ c) (h2 : c ≤ 95) (h3 : (n : Int) = (63 - (c - 32)) / 7 + 2) : vOk c n = true ∧ vShift c n = c - 32 := by
  have : vOk c n = true := by unfold vOk; rw [decide_eq_true_eq]; exact ⟨h0, h1, h2, h3⟩
  exact ⟨this, by unfold vShift; rw [if_pos this]⟩
theorem vOk_no {c : Int} {n : Nat} (h : ¬ (0 < n ∧ 32 ≤ c ∧ c ≤ 95 ∧ (n : Int) = (63 - (c - 32)) / 7 + 2)) : vOk c n = false ∧ vShift c n = 0 := by
  have : vOk c n = false := by unfold vOk; rw [decide_eq_false_iff_not]; exact h
  exact ⟨this, by unfold vShift; rw [if_neg (by simp [this])]⟩

set_option maxHeartbeats 400000 in
theorem valid_bytes (c : Int) (b off n cap : Nat) (hc0 : 0 ≤ c) (hc1 : c ≤ 255) (hn : n < 2147483648) (w : World) (hcell : 0 < n → w.cell? ⟨b, off, none⟩ = some (.int .u8 c)) :
    Calls Tryd.prog 33 #[.slice (some ⟨b, off, none⟩) n cap] w fun e w' => e = .returned (.tuple #[.bool (vOk c n), .int .i64 (vShift c n)]) ∧ w = w' := by
  rcases Nat.eq_zero_or_pos n with h0 | h0
  · obtain ⟨e1, e2⟩ := vOk_no (c := c) (n := n) (by omega)
    rw [e1, e2]
    subst h0
    clear e1 e2 hcell
    go_enter Tryd.func33, Tryd.ntmps33
    go_wp2
    go_ret2
    exact ⟨rfl, rfl⟩
  · have hce := hcell h0
    clear hcell
    by_cases h1 : c < 32
    · obtain ⟨e1, e2⟩ := vOk_no (c := c) (n := n) (by omega)
      rw [e1, e2]
      clear e1 e2
      have d1 : decide (c < 32) = true := by simp [h1]
      go_enter Tryd.func33, Tryd.ntmps33
      go_wp2
      go_ret2
      exact ⟨rfl, rfl⟩
    · have d1 : decide (c < 32) = false := by simp; omega
      by_cases h2 : 95 < c
      · obtain ⟨e1, e2⟩ := vOk_no (c := c) (n := n) (by omega)
        rw [e1, e2]
        clear e1 e2
        have d2 : decide (95 < c) = true := by simp [h2]
        go_enter Tryd.func33, Tryd.ntmps33
        go_wp2
        go_ret2
        exact ⟨rfl, rfl⟩
      · have d2 : decide (95 < c) = false := by simp; omega
        obtain ⟨k, hk⟩ : ∃ k : Nat, (63 - (c - 32)) / 7 = (k : Int) := ⟨((63 - (c - 32)) / 7).toNat, by omega⟩
        by_cases h3 : n = k + 2
        · obtain ⟨e1, e2⟩ := vOk_yes (c := c) (n := n) h0 (by omega) (by omega) (by omega)
          rw [e1, e2]
          clear e1 e2
          subst h3
          go_enter Tryd.func33, Tryd.ntmps33
          go_wp2
          go_ret2
          exact ⟨rfl, rfl⟩
        · obtain ⟨e1, e2⟩ := vOk_no (c := c) (n := n) (by omega)
          rw [e1, e2]
          clear e1 e2
          have d3 : ((n : Int) == (k : Int) + 1 + 1) = false := by rw [beq_eq_false_iff_ne]; omega
          have d4 : ((n : Int) != (k : Int) + 1 + 1) = true := by rw [bne_iff_ne]; omega
          go_enter Tryd.func33, Tryd.ntmps33
          go_wp2
          go_ret2
          exact ⟨rfl, rfl⟩

/-- The first byte of n bytes at an address. -/
def Head (w : World) (A : Option Addr) (c : Int) : Prop := ∃ b off, A = some ⟨b, off, none⟩ ∧ w.cell? ⟨b, off, none⟩ = some (.int .u8 c)

theorem valid_any (A : Option Addr) (c : Int) (n cap : Nat) (hc0 : 0 ≤ c) (hc1 : c ≤ 255) (hn : n < 2147483648) (w : World) (hh : 0 < n → Head w A c) :
    Calls Tryd.prog 33 #[.slice A n cap] w fun e w' => e = .returned (.tuple #[.bool (vOk c n), .int .i64 (vShift c n)]) ∧ w = w' := by
  rcases Nat.eq_zero_or_pos n with h0 | h0
  · obtain ⟨e1, e2⟩ := vOk_no (c := c) (n := n) (by omega)
    rw [e1, e2]
    subst h0
    clear e1 e2 hh
    go_enter Tryd.func33, Tryd.ntmps33
    go_wp2
    go_ret2
    exact ⟨rfl, rfl⟩
  · obtain ⟨b, off, rfl, hcell⟩ := hh h0
    exact valid_bytes c b off n cap hc0 hc1 hn w (fun _ => hcell)

theorem below_bytes (w : World) (e : TypeId) (s : ByteArray) : Below w.heap.size w (Lib.bytesWorld w e s) :=
  ⟨rfl, rfl, rfl, by rw [Lib.bytesWorld_size]; omega, fun k hk => Lib.bytesWorld_at_old w e s k hk⟩

def headOf (s : ByteArray) : Int := (s.data.toList.getD 0 0).toNat
theorem headOf_range (s : ByteArray) : 0 ≤ headOf s ∧ headOf s ≤ 255 := by
  unfold headOf
  have := (s.data.toList.getD 0 0).toNat_lt
  omega

set_option maxHeartbeats 400000 in
theorem valid_term (s : ByteArray) (hn : s.size < 2147483648) (w : World) :
    Calls Tryd.prog 32 #[.string s] w fun e w' => e = .returned (.tuple #[.bool (vOk (headOf s) s.size), .int .i64 (vShift (headOf s) s.size)]) ∧ Below w.heap.size w w' := by
  have k := fun w => Lib.run_convert_string_bytes (P := Tryd.prog) w 9 23 5 s Tryd.underlying9 Tryd.underlying23 Tryd.underlying5
  have hr := headOf_range s
  have HH := Lib.hid (show 0 < s.size → Head (Lib.bytesWorld w 5 s) (some ⟨w.heap.size, 0, none⟩) (headOf s) from fun h => ⟨_, _, rfl, Lib.bytesWorld_cell w 5 s 0 h⟩)
  have HB := Lib.hid (below_bytes w 5 s)
  go_enter Tryd.func32, Tryd.ntmps32
  go_wp2_with fail
  refine (valid_any _ (headOf s) s.size _ hr.1 hr.2 hn _ HH.out).mono ?_
  rintro e w' ⟨rfl, rfl⟩
  clear k
  generalize Lib.bytesWorld w 5 s = w1 at *
  go_wp2
  go_ret2
  exact ⟨rfl, HB.out⟩

/-- Bytes that are read: none, or at an address. -/
def BytesIn (w : World) (A : Option Addr) (l : List Int) : Prop :=
  (∀ x ∈ l, 0 ≤ x ∧ x ≤ 255) ∧ (0 < l.length → ∃ b off, A = some ⟨b, off, none⟩ ∧ ∀ i, i < l.length → w.cell? ⟨b, off + i, none⟩ = some (.int .u8 (l.getD i 0)))

def hd (l : List Int) : Int := l.getD 0 0
theorem hd_range {l : List Int} (h : ∀ x ∈ l, 0 ≤ x ∧ x ≤ 255) : 0 ≤ hd l ∧ hd l ≤ 255 := by
  cases l with
  | nil => simp [hd]
  | cons a l => simpa [hd] using h a (by simp)
theorem BytesIn.head {w : World} {A : Option Addr} {l : List Int} (h : BytesIn w A l) : 0 < l.length → Head w A (hd l) := by
  intro hl
  obtain ⟨b, off, rfl, hc⟩ := h.2 hl
  exact ⟨b, off, rfl, by have := hc 0 hl; rw [Nat.add_zero] at this; exact this⟩
theorem BytesIn.below {w w' : World} {A : Option Addr} {l : List Int} (h : BytesIn w A l) (hb : Below w.heap.size w w') : BytesIn w' A l := by
  refine ⟨h.1, fun hl => ?_⟩
  obtain ⟨b, off, rfl, hc⟩ := h.2 hl
  exact ⟨b, off, rfl, fun i hi => cell_below hb (World.block_lt_of_cell? w _ (hc i hi)) (hc i hi)⟩
theorem BytesIn.conv {w : World} {A : Option Addr} {l : List Int} (h : BytesIn w A l) (cap : Nat) : (convert 23 9 (.slice A l.length cap)).run Tryd.prog w = .ok (.string (strOfNums l)) w := by
  rcases Nat.eq_zero_or_pos l.length with h0 | h0
  · obtain rfl : l = [] := List.eq_nil_of_length_eq_zero h0
    cases A with
    | none => exact run_convert_bytes_nil (P := Tryd.prog) w 23 5 Tryd.underlying23 Tryd.underlying5 _ _ 9 Tryd.underlying9
    | some ad =>
      have hl := run_loadCells_list (P := Tryd.prog) w ad [] (fun j v hj => by simp at hj)
      show (convert 23 9 (.slice (some ad) 0 cap)).run Tryd.prog w = _
      rw [run_convert_bytes_string w 23 9 5 _ 0 cap Tryd.underlying23 Tryd.underlying5 Tryd.underlying9, run_bytesToString w _ 0 cap [] (by simpa using hl)]
      rfl
  · obtain ⟨b, off, rfl, hc⟩ := h.2 h0
    exact run_convert_bytes_arg (P := Tryd.prog) w 23 5 Tryd.underlying23 Tryd.underlying5 b off l.length cap l rfl hc 9 Tryd.underlying9
theorem head_str {l : List Int} (h : ∀ x ∈ l, 0 ≤ x ∧ x ≤ 255) : headOf (strOfNums l) = hd l := by
  unfold headOf hd
  rw [strOfNums_data]
  cases l with
  | nil => rfl
  | cons a l =>
    have ha := h a (by simp)
    simp
    omega

set_option maxHeartbeats 400000 in
theorem impl_valid (A : Option Addr) (cap : Nat) (l : List Int) (w : World) (hl : l.length < 2147483648) (h : BytesIn w A l) :
    Calls Tryd.prog 21 #[.slice A l.length cap] w fun e w' => e = .returned (.tuple #[.bool (vOk (hd l) l.length), .int .i64 (vShift (hd l) l.length), .bool (vOk (hd l) l.length), .int .i64 (vShift (hd l) l.length)]) ∧ Below w.heap.size w w' := by
  have k := h.conv cap
  have hr := hd_range h.1
  have HS := Lib.hid (valid_term (strOfNums l) (by rw [strOfNums_size]; exact hl) w)
  rw [head_str h.1, strOfNums_size] at HS
  have HI := Lib.hid h
  clear h
  go_enter Tryd.func21, Tryd.ntmps21
  go_wp2_with fail
  refine HS.out.mono ?_
  rintro e w' ⟨rfl, hb⟩
  have HB := Lib.hid hb
  have HH := Lib.hid (HI.out.below hb).head
  clear hb k
  go_wp2_with fail
  refine (valid_any A (hd l) l.length cap hr.1 hr.2 hl w' HH.out).mono ?_
  rintro e w1 ⟨rfl, rfl⟩
  go_wp2
  exact bodyPost_ret (v := .tuple #[.bool (vOk (hd l) l.length), .int .i64 (vShift (hd l) l.length), .bool (vOk (hd l) l.length), .int .i64 (vShift (hd l) l.length)]) (by simp [results, Tryd.results21, go_sem]) rfl ⟨rfl, HB.out⟩

set_option maxHeartbeats 1000000 in
theorem right_any (A : Option Addr) (cap : Nat) (l : List Int) (w : World) (hl : l.length < 2147483648) (h : BytesIn w A l) :
    Calls Tryd.prog 20 #[.slice A l.length cap] w fun e w' => e = .returned (.tuple #[.bool (vOk (hd l) l.length), .int .i64 (vShift (hd l) l.length)]) ∧ Below w.heap.size w w' := by
  have hr := hd_range h.1
  have hh := h.head
  clear h
  generalize hd l = c at *
  generalize l.length = n at *
  rcases Nat.eq_zero_or_pos n with h0 | h0
  · obtain ⟨e1, e2⟩ := vOk_no (c := c) (n := n) (by omega)
    rw [e1, e2]
    subst h0
    clear e1 e2 hh
    go_enter Tryd.func20, Tryd.ntmps20
    go_wp2
    go_ret2
    exact ⟨rfl, Below.refl _ _⟩
  · obtain ⟨b, off, rfl, hce⟩ := hh h0
    clear hh
    have hz : ((n : Int) == 0) = false := by rw [beq_eq_false_iff_ne]; omega
    by_cases h1 : c < 32
    · obtain ⟨e1, e2⟩ := vOk_no (c := c) (n := n) (by omega)
      rw [e1, e2]
      clear e1 e2
      have d1 : decide (c < 32) = true := by simp [h1]
      go_enter Tryd.func20, Tryd.ntmps20
      go_wp2
      go_ret2
      exact ⟨rfl, Below.refl _ _⟩
    · have d1 : decide (c < 32) = false := by simp; omega
      by_cases h2 : 95 < c
      · obtain ⟨e1, e2⟩ := vOk_no (c := c) (n := n) (by omega)
        rw [e1, e2]
        clear e1 e2
        have d2 : decide (95 < c) = true := by simp [h2]
        go_enter Tryd.func20, Tryd.ntmps20
        go_wp2
        go_ret2
        exact ⟨rfl, Below.refl _ _⟩
      · have d2 : decide (95 < c) = false := by simp; omega
        obtain ⟨hk, hk9⟩ := pk_is (c - 32) (by omega) (by omega)
        have HS := Lib.hid (fun w => size_any (c - 32) (by omega) (by omega) w)
        generalize pk (c - 32) = k at *
        by_cases h3 : n = k + 2
        · obtain ⟨e1, e2⟩ := vOk_yes (c := c) (n := n) h0 (by omega) (by omega) (by omega)
          rw [e1, e2]
          clear e1 e2 hk
          have d4 : ((n : Int) != (k : Int) + 1 + 1) = false := by rw [bne_eq_false_iff_eq]; omega
          clear h3
          go_enter Tryd.func20, Tryd.ntmps20
          go_wp2_with fail
          refine (HS.out w).mono ?_
          rintro e w' ⟨rfl, rfl⟩
          go_wp2
          go_quiet (fail)
          go_wp2
          go_ret2
          exact ⟨rfl, by repeat (first | exact Below.refl _ _ | apply Below.drew | apply below_drewN)⟩
        · obtain ⟨e1, e2⟩ := vOk_no (c := c) (n := n) (by omega)
          rw [e1, e2]
          clear e1 e2 hk
          have d4 : ((n : Int) != (k : Int) + 1 + 1) = true := by rw [bne_iff_ne]; omega
          go_enter Tryd.func20, Tryd.ntmps20
          go_wp2_with fail
          refine (HS.out w).mono ?_
          rintro e w' ⟨rfl, rfl⟩
          go_wp2
          go_ret2
          exact ⟨rfl, Below.refl _ _⟩
end Go.Proofs.YtkhmomagjkdcdaaDoor
