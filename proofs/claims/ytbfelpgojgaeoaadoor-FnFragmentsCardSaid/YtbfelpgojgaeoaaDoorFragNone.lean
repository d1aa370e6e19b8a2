/- The contract of the fragmenter's Fragment without terms: one fragment, of the beginning. -/
import Derived.Test.YtbfelpgojgaeoaaDoorCuts
import Derived.Test.YtbfelpgojgaeoaaDoorLocs
import Derived.Deep.LoopGhost
import Derived.Deep.CutBlock
import Derived.Deep.DeepCutAuto
import Derived.Deep.AppendLies
set_option linter.unusedVariables false
set_option linter.unusedSimpArgs false
namespace Go.Proofs.YtbfelpgojgaeoaaDoor
open Go.RowKit

def fragCells (b n cap : Nat) (x y : Int) : Array Value := #[.slice (some ⟨b, 0, none⟩) n cap, .slice none 0 0, .int .i64 x, .int .i64 y, .float .f64 0, .int .i64 0]
theorem info_frag : (Tryd.prog.info? 46).map (fun i => (i.zero, i.size, i.bytes)) = some (some (.pointer none), 1, 8) := by kernel_rfl

theorem frag_tail {w wr : World} (hb : Below w.heap.size w wr) (cs : Array Value) (p : Value) (X : Array Value) (t t1 t2 : TypeId) :
    (((wr.alloc (.cells cs t)).alloc (.cells #[p] t1)).alloc (.cells (#[p] ++ X) t2)).drew.cell? ⟨wr.heap.size + 1 + 1, 0, none⟩ = some p ∧
      RowAt (((wr.alloc (.cells cs t)).alloc (.cells #[p] t1)).alloc (.cells (#[p] ++ X) t2)).drew wr.heap.size cs ∧ Below w.heap.size w (((wr.alloc (.cells cs t)).alloc (.cells #[p] t1)).alloc (.cells (#[p] ++ X) t2)).drew := by
  have h1 : RowAt (allocs wr [.cells cs t, .cells #[p] t1, .cells (#[p] ++ X) t2]) (wr.heap.size + 2) (#[p] ++ X) := allocs_row (i := 2) rfl rfl
  have h2 : RowAt (allocs wr [.cells cs t, .cells #[p] t1, .cells (#[p] ++ X) t2]) wr.heap.size cs := allocs_row (i := 0) rfl rfl
  have h3 := hb.trans (allocs_below [.cells cs t, .cells #[p] t1, .cells (#[p] ++ X) t2] wr w.heap.size hb.size)
  exact ⟨h1 0 _ (by rw [Array.getElem?_append_left (by simp)]; rfl), h2, below_drewN h3 1⟩

set_option maxRecDepth 1000000 in
set_option maxHeartbeats 4000000 in
theorem fragment_none (s : ByteArray) (rs : List Nat) (h : Txt s rs) (hn : 65533 ∉ rs) (fb b cap size : Nat) (hcap : s.size ≤ cap) (hsz : s.size ≤ 2147483647) (hsize : size ≤ 2147483647) (w : World) (I : Inp w b s) (hf : w.cell? ⟨fb, 0, none⟩ = some (.int .i64 size)) :
    Calls Tryd.prog 14 #[.pointer (some ⟨fb, 0, none⟩), .slice (some ⟨b, 0, none⟩) s.size cap, .slice none 0 0] w fun e w' =>
      ∃ g gc f, e = .returned (.slice (some ⟨g, 0, none⟩) 1 gc) ∧ w'.cell? ⟨g, 0, none⟩ = some (.pointer (some ⟨f, 0, none⟩)) ∧ RowAt w' f (fragCells b s.size cap 0 (off rs (min size rs.length))) ∧ Below w.heap.size w w' := by
  go_enter Tryd.func14, Tryd.ntmps14
  go_wp2
  go_step3
  go_wp2
  go_step3
  go_wp2
  refine wp_loop_rounds 1 ?_
  simp only [rounds_succ]
  go_wp2
  go_loopg [27, 28, 29, 30] rs.length (fun g s27 s28 s29 s30 wx => ∃ k : Nat, k ≤ rs.length ∧ k ≤ size ∧ g = rs.length - k ∧ s27 = .int .i64 (off rs k) ∧ s28 = .int .i64 k ∧ Below w.heap.size w wx)
  case atStart => exact ⟨0, by omega, by omega, by omega, rfl, rfl, Below.refl _ _⟩
  case round =>
    obtain ⟨k, hk, hks, hg, rfl, rfl, hb⟩ := hrel
    have hfr : wr.cell? ⟨fb, 0, none⟩ = some (.int .i64 size) := belowRow hb hf
    have J := Lib.hid (I.below hb)
    have HB := Lib.hid hb
    by_cases hkn : k < rs.length
    · have hlt : off rs k < s.size := by rw [h.size]; exact (off_lt_iff h.vs hk (Nat.le_refl _)).2 hkn
      by_cases hkz : k < size
      · go_wp2_with fail
        refine (dec_at (b := b) (cap := cap) h hn J.out hkn _ rfl).mono ?_
        rintro e w1 ⟨r, d, hr, hd, rfl, hb1⟩
        have hle := h.off_le (k := k + 1) (by omega)
        have hbeq : ((r : Int) == 65533) = false := by simpa using (by omega : ¬ (r : Int) = 65533)
        have HB1 := Lib.hid (HB.out.trans (hb1.mono HB.out.size))
        clear hb hb1
        go_wp2_with fail
        go_roundg (rs.length - (k + 1))
        case measure => omega
        case rel => exact ⟨k + 1, by omega, by omega, rfl, by congr 1; omega, by congr 1, HB1.out⟩
      · go_wp2_with fail
        rw [Exit.noGoto_ret]
        go_ret
        have hk2 : k = min size rs.length := by omega
        have ht := frag_tail HB.out (fragCells b s.size cap 0 (off rs k)) (.pointer (some ⟨wr.heap.size, 0, none⟩))
        rw [← hk2]
        exact ⟨_, _, _, rfl, ht _ _ _ _⟩
    · have hlt : ¬ off rs k < s.size := by rw [h.size, off_lt_iff h.vs hk (Nat.le_refl _)]; omega
      go_wp2_with fail
      rw [Exit.noGoto_ret]
      go_ret
      have hk2 : k = min size rs.length := by omega
      have ht := frag_tail HB.out (fragCells b s.size cap 0 (off rs k)) (.pointer (some ⟨wr.heap.size, 0, none⟩))
      rw [← hk2]
      exact ⟨_, _, _, rfl, ht _ _ _ _⟩
end Go.Proofs.YtbfelpgojgaeoaaDoor
