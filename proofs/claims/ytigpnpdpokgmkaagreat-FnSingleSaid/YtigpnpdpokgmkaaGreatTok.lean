/- The contracts of the tokenizers: the single one, the parts of the character tokenizer, and impl.tokenizer at both kinds. -/
import Derived.Test.YtigpnpdpokgmkaaGreatStream
set_option linter.unusedVariables false
set_option linter.unusedSimpArgs false
namespace Go.Proofs.YtigpnpdpokgmkaaGreat
open Go Go.RowKit

theorem single_tok (q : Nat) (V : Value) (c : Addr) (n cap : Nat) (hV : V = .slice (some c) n cap) (w : World) : Calls Tryz.prog 130 #[.pointer (some ⟨q, 0, none⟩), V] w fun x w' => ∃ g p, x = .returned (.slice (some ⟨g, 0, none⟩) 1 1) ∧ w'.cell? ⟨g, 0, none⟩ = some (.pointer (some ⟨p, 0, none⟩)) ∧
    RowAt w' p #[.int .i64 0, .int .i64 n, V, .int .i64 1, .int .i64 0, .bool false] ∧ Below w.heap.size w w' := by
  subst hV
  have h1 := RowAt.new w #[.int .i64 0, .int .i64 n, .slice (some c) n cap, .int .i64 1, .int .i64 0, .bool false] 74
  have h2 := (One.new (w.alloc (.cells #[.int .i64 0, .int .i64 n, .slice (some c) n cap, .int .i64 1, .int .i64 0, .bool false] 74)) (.pointer (some ⟨w.heap.size, 0, none⟩)) 71).cell
  have h3 := h1.below ((Below.refl _ _).alloc (Nat.le_refl _) (.cells #[.pointer (some ⟨w.heap.size, 0, none⟩)] 71))
  have hz : (w.alloc (.cells #[.int .i64 0, .int .i64 n, .slice (some c) n cap, .int .i64 1, .int .i64 0, .bool false] 74)).heap.size = w.heap.size + 1 := by simp
  rw [hz] at h2
  have hb : Below w.heap.size w ((w.alloc (.cells #[.int .i64 0, .int .i64 n, .slice (some c) n cap, .int .i64 1, .int .i64 0, .bool false] 74)).alloc (.cells #[.pointer (some ⟨w.heap.size, 0, none⟩)] 71)) := ((Below.refl _ _).alloc (Nat.le_refl _) _).alloc (by simp) _
  have H := Lib.hid (And.intro h2 (And.intro h3 hb))
  clear h1 h2 h3 hb hz
  go_enter Tryz.func130, Tryz.ntmps130
  go_wp2
  go_ret
  exact ⟨_, _, rfl, H.out.1, H.out.2.1, H.out.2.2⟩

theorem new_single (w : World) : Calls Tryz.prog 55 #[] w fun x w' => ∃ p, x = .returned (.pointer (some ⟨p, 0, none⟩)) ∧ Below w.heap.size w w' := by
  go_enter Tryz.func55, Tryz.ntmps55
  go_wp2
  go_ret
  exact ⟨_, rfl, (Below.refl _ _).alloc (Nat.le_refl _) _⟩

theorem tokenizer_single (set : ByteArray) (w : World) : Calls Tryz.prog 32 #[.int .i64 0, .string set] w fun x w' => ∃ p, x = .returned (.iface 109 (.pointer (some ⟨p, 0, none⟩))) ∧ Below w.heap.size w w' := by
  have hb : Below w.heap.size w (w.alloc (.cells #[.string set] 9)) := (Below.refl _ _).alloc (Nat.le_refl _) _
  go_enter Tryz.func32, Tryz.ntmps32
  go_wp2_with fail
  generalize w.alloc (.cells #[.string set] 9) = W at *
  refine (new_single W).mono ?_
  rintro x w1 ⟨p, rfl, hb1⟩
  have HB := Lib.hid (hb.trans (hb1.mono hb.size))
  clear hb hb1
  go_wp2
  go_ret
  exact ⟨p, rfl, HB.out⟩

abbrev fnNot : Value := .func (.func 63) #[] #[]
theorem new_char (w : World) : Calls Tryz.prog 58 #[.func (.func 63) #[] #[]] w fun x w' => ∃ p, x = .returned (.pointer (some ⟨p, 0, none⟩)) ∧ w'.cell? ⟨p, 0, none⟩ = some fnNot ∧ Below w.heap.size w w' := by
  have h := (One.new w fnNot 146).cell
  have hb : Below w.heap.size w (w.alloc (.cells #[fnNot] 146)) := (Below.refl _ _).alloc (Nat.le_refl _) _
  have H := Lib.hid (And.intro h hb)
  clear h hb
  go_enter Tryz.func58, Tryz.ntmps58
  go_wp2
  go_ret
  exact ⟨_, rfl, H.out.1, H.out.2⟩

theorem space_tok (w : World) : Calls Tryz.prog 57 #[] w fun x w' => ∃ p, x = .returned (.iface 112 (.pointer (some ⟨p, 0, none⟩))) ∧ w'.cell? ⟨p, 0, none⟩ = some fnNot ∧ Below w.heap.size w w' := by
  go_enter Tryz.func57, Tryz.ntmps57
  go_wp2_with fail
  refine (new_char w).mono ?_
  rintro x w1 ⟨p, rfl, hc, hb⟩
  have H := Lib.hid (And.intro hc hb)
  clear hc hb
  go_wp2
  go_ret
  exact ⟨p, rfl, H.out.1, H.out.2⟩

theorem tokenizer_space (set : ByteArray) (w : World) : Calls Tryz.prog 32 #[.int .i64 2, .string set] w fun x w' => ∃ p, x = .returned (.iface 112 (.pointer (some ⟨p, 0, none⟩))) ∧ w'.cell? ⟨p, 0, none⟩ = some fnNot ∧ Below w.heap.size w w' := by
  have hb : Below w.heap.size w (w.alloc (.cells #[.string set] 9)) := (Below.refl _ _).alloc (Nat.le_refl _) _
  go_enter Tryz.func32, Tryz.ntmps32
  go_wp2_with fail
  generalize w.alloc (.cells #[.string set] 9) = W at *
  refine (space_tok W).mono ?_
  rintro x w1 ⟨p, rfl, hc, hb1⟩
  have HB := Lib.hid (And.intro hc (hb.trans (hb1.mono hb.size)))
  clear hb hb1 hc
  go_wp2
  go_ret
  exact ⟨p, rfl, HB.out.1, HB.out.2⟩

theorem decode_at (c o n cap b : Nat) (hn : 0 < n) (hb : b < 128) (w : World) (h : w.cell? ⟨c, o, none⟩ = some (.int .u8 b)) : Calls Tryz.prog 93 #[.slice (some ⟨c, o, none⟩) n cap] w fun x w' => x = .returned (.tuple #[.int .i32 b, .int .i64 1]) ∧ w = w' := by
  have hd : decide (b < 128) = true := by simpa using hb
  have hd' : decide ((b : Int) < 128) = true := by rw [decide_eq_true_eq]; omega
  have hn' : decide (0 < n) = true := by simpa using hn
  have hw : IntKind.i32.wrap (b : Int) = b := by simp [IntKind.wrap, IntKind.min, IntKind.max, IntKind.signed, IntKind.bits]; omega
  have h' : w.cell? ⟨c, o + 0, none⟩ = some (.int .u8 b) := h
  go_enter Tryz.func93, Tryz.ntmps93
  go_wp2
  refine wp_loop_rounds 1 ?_
  simp only [rounds_succ]
  go_wp2
  exact bodyPost_ret (v := .tuple #[.int .i32 b, .int .i64 1]) (by simp [results, Tryz.results93, go_sem]) rfl ⟨rfl, rfl⟩
theorem decode_end (a : Option Addr) (cap : Nat) (w : World) : Calls Tryz.prog 93 #[.slice a 0 cap] w fun x w' => x = .returned (.tuple #[.int .i32 65533, .int .i64 0]) ∧ w = w' := by
  have F : ∀ w, Calls Tryz.prog 96 #[.slice a 0 cap] w fun x w' => x = .returned (.tuple #[.int .i32 65533, .int .i64 0]) ∧ w = w' := fun w => by
    go_enter Tryz.func96, Tryz.ntmps96
    go_wp2
    exact bodyPost_ret (v := .tuple #[.int .i32 65533, .int .i64 0]) (by simp [results, Tryz.results96, go_sem]) rfl ⟨rfl, rfl⟩
  have H := Lib.hid F
  clear F
  go_enter Tryz.func93, Tryz.ntmps93
  go_wp2
  refine wp_loop_rounds 1 ?_
  simp only [rounds_succ]
  go_wp2_with fail
  refine (H.out w).mono ?_
  rintro x w1 ⟨rfl, rfl⟩
  go_wp2
  exact bodyPost_ret (v := .tuple #[.int .i32 65533, .int .i64 0]) (by simp [results, Tryz.results93, go_sem]) rfl ⟨rfl, rfl⟩
theorem not_space (c : Int) (r : Bool) (h : (c = 97 ∧ r = true) ∨ (c = 32 ∧ r = false) ∨ (c = 98 ∧ r = true)) (w : World) : Calls Tryz.prog 63 #[.int .i32 c] w fun x w' => x = .returned (.bool r) ∧ w = w' := by
  have F : Calls Tryz.prog 66 #[.int .i32 c] w fun x w' => x = .returned (.bool (!r)) ∧ w = w' := by
    rcases h with ⟨rfl, rfl⟩ | ⟨rfl, rfl⟩ | ⟨rfl, rfl⟩
    all_goals
      go_enter Tryz.func66, Tryz.ntmps66
      go_wp2
      go_ret
      exact ⟨rfl, rfl⟩
  clear h
  have H := Lib.hid F
  clear F
  go_enter Tryz.func63, Tryz.ntmps63
  go_wp2_with fail
  refine H.out.mono ?_
  rintro x w1 ⟨rfl, rfl⟩
  cases r
  all_goals
    go_wp2
    go_ret
    exact ⟨rfl, rfl⟩
end Go.Proofs.YtigpnpdpokgmkaaGreat
