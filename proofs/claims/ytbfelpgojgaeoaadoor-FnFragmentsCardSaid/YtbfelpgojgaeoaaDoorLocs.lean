/- The contracts of slices.Equal at two nil slices, of impl.locations at one location, and of NewFragmentFormatter. -/
import Derived.Test.YtbfelpgojgaeoaaDoorSafe
import Derived.Test.YtbfelpgojgaeoaaDoorMem
import Derived.LoopN
set_option linter.unusedVariables false
set_option linter.unusedSimpArgs false
namespace Go.Proofs.YtbfelpgojgaeoaaDoor
open Go.RowKit

theorem equal_nil (w : World) : Calls Tryd.prog 31 #[.slice none 0 0, .slice none 0 0] w fun x w' => x = .returned (.bool true) ∧ w = w' := by
  go_enter Tryd.func31, Tryd.ntmps31
  go_wp2
  refine wp_loop_rounds 1 ?_
  simp only [rounds_succ]
  go_wp2
  go_ret
  exact ⟨rfl, rfl⟩

theorem equals_nil (w : World) : Calls Tryd.prog 27 #[.slice none 0 0, .slice none 0 0] w fun x w' => x = .returned (.bool true) ∧ w = w' := by
  go_enter Tryd.func27, Tryd.ntmps27
  go_wp2_with fail
  refine (equal_nil w).mono ?_
  rintro x w' ⟨rfl, rfl⟩
  go_wp2
  go_ret
  exact ⟨rfl, rfl⟩

theorem info_loc : (Tryd.prog.info? 61).map (fun i => (i.zero, i.size, i.bytes)) = some (some (.pointer none), 1, 8) := by kernel_rfl

def locRow (s e : Int) : Array Value := #[.string ByteArray.empty, .slice none 0 0, .int .i64 0, .int .i64 s, .int .i64 e]

theorem locs (b : Nat) (w : World) (h0 : w.cell? ⟨b, 0, none⟩ = some (.int .i64 1)) (h1 : w.cell? ⟨b, 1, none⟩ = some (.int .i64 2)) :
    Calls Tryd.prog 15 #[.slice (some ⟨b, 0, none⟩) 1 1] w fun x w' => ∃ g cap p, x = .returned (.slice (some ⟨g, 0, none⟩) 1 cap) ∧ w'.cell? ⟨g, 0, none⟩ = some (.pointer (some ⟨p, 0, none⟩)) ∧
      RowAt w' p (locRow 1 2) ∧ Below w.heap.size w w' := by
  go_enter Tryd.func15, Tryd.ntmps15
  go_wp2
  refine wp_loop_rounds 2 ?_
  simp only [rounds_succ]
  go_wp2_with (at_builtin; refine wpList_append_own_src _ rfl _ _ 44 44 rfl w.heap.size 61 (.pointer none) 1 8 Tryd.underlying44 info_loc rfl (by decide) _ 0 [] rfl (World.ownsRow_nil _ _ _ _) _ 1 [.pointer (some ⟨w.heap.size + 1, 0, none⟩)] rfl ?src ?h63 ?hb ?base ?_)
  case src =>
    have h := src_one (P := Tryd.prog) Tryd.underlying44 ((w.alloc (.cells #[.int .i64 1, .int .i64 2] 26)).alloc (.cells (locRow 1 2) 64)) (.pointer (some ⟨w.heap.size + 1, 0, none⟩)) 61 rfl
    have hz : ((w.alloc (.cells #[.int .i64 1, .int .i64 2] 26)).alloc (.cells (locRow 1 2) 64)).heap.size = w.heap.size + 1 + 1 := by simp
    rw [hz] at h
    exact h
  case h63 => simp [maxLen]
  case hb => omega
  case base => simp; omega
  intro v' w2 hown2 hg2
  have hB1 : Below w.heap.size w (((w.alloc (.cells #[.int .i64 1, .int .i64 2] 26)).alloc (.cells (locRow 1 2) 64)).alloc (.cells #[.pointer (some ⟨w.heap.size + 1, 0, none⟩)] 61)) :=
    (((Below.refl _ _).alloc (Nat.le_refl _) _).alloc (by simp) _).alloc (by simp; omega) _
  have hr : RowAt (((w.alloc (.cells #[.int .i64 1, .int .i64 2] 26)).alloc (.cells (locRow 1 2) 64)).alloc (.cells #[.pointer (some ⟨w.heap.size + 1, 0, none⟩)] 61)) (w.heap.size + 1) (locRow 1 2) := by
    have h := (RowAt.new (w.alloc (.cells #[.int .i64 1, .int .i64 2] 26)) (locRow 1 2) 64).below ((Below.refl _ _).alloc (Nat.le_refl _) (.cells #[.pointer (some ⟨w.heap.size + 1, 0, none⟩)] 61))
    simpa using h
  change (((w.alloc (.cells #[.int .i64 1, .int .i64 2] 26)).alloc (.cells (locRow 1 2) 64)).alloc (.cells #[.pointer (some ⟨w.heap.size + 1, 0, none⟩)] 61)).grownBy w2 _ at hg2
  generalize (((w.alloc (.cells #[.int .i64 1, .int .i64 2] 26)).alloc (.cells (locRow 1 2) 64)).alloc (.cells #[.pointer (some ⟨w.heap.size + 1, 0, none⟩)] 61)) = W at *
  have hb2 : Below W.heap.size W w2 := (Below.refl _ _).grown hg2 (Nat.le_refl _) (fun k hk => by cases hk)
  have HR := Lib.hid (hr.below hb2)
  have HB := Lib.hid (hB1.trans (hb2.mono hB1.size))
  obtain ⟨_, ⟨_, hz⟩ | ⟨g, cap, cur, rfl, hg, hh, hn, hm, hsz, htk⟩⟩ := id hown2
  · cases hz
  have hc := hown2.cellAt 0 (by omega)
  have HC := Lib.hid hc
  clear hown2 hg2 hb2 hB1 hr hh hn hm hsz htk hc hg
  go_wp2
  simp only [rounds_succ]
  go_wp2
  go_ret
  exact ⟨g, cap, w.heap.size + 1, rfl, by simpa using HC.out, HR.out, HB.out⟩

def fmtRow (b a : ByteArray) : Array Value := #[.string b, .string a]
theorem new_formatter (b a : ByteArray) (w : World) :
    Calls Tryd.prog 19 #[.string b, .string a] w fun x w' => ∃ p, x = .returned (.pointer (some ⟨p, 0, none⟩)) ∧ RowAt w' p (fmtRow b a) ∧ Below w.heap.size w w' := by
  go_enter Tryd.func19, Tryd.ntmps19
  go_wp2
  go_ret
  exact ⟨_, rfl, RowAt.new _ _ _, (Below.refl _ _).alloc (Nat.le_refl _) _⟩
end Go.Proofs.YtbfelpgojgaeoaaDoor
