/- The contracts of impl.Tokens: the single tokenizer at every text, the white-space one at the text that filterAlive asks. -/
import Derived.Test.YtigpnpdpokgmkaaGreatTokens2
import Derived.Test.YtigpnpdpokgmkaaGreatCharTok
set_option linter.unusedVariables false
set_option linter.unusedSimpArgs false
namespace Go.Proofs.YtigpnpdpokgmkaaGreat
open Go Go.RowKit

/-- Cells of a block. -/
def CellsAt (w : World) (d : Nat) (f : Nat → Option Value) : Prop := ∀ o u, f o = some u → w.cell? ⟨d, o, none⟩ = some u
theorem CellsAt.below {w w1 : World} {d : Nat} {f : Nat → Option Value} (h : CellsAt w d f) (hb : Below w.heap.size w w1) : CellsAt w1 d f := fun o u hu => belowRow hb (h o u hu)
theorem CellsAt.other {w : World} {d c j : Nat} {f : Nat → Option Value} {y : Value} (h : CellsAt w d f) (hn : d ≠ c) : CellsAt (w.setCell ⟨c, j, none⟩ y) d f := fun o u hu => cell_other hn (h o u hu)
theorem setCell_id {w : World} {b i : Nat} {v : Value} (h : w.cell? ⟨b, i, none⟩ = some v) : w.setCell ⟨b, i, none⟩ v = w := by
  have hh : ∀ o, w.heap[b]? = some o → (match o with | .cells c elem frozen => Obj.cells (c.setIfInBounds i v) elem frozen | o => o) = o := by
    intro o ho
    unfold World.cell? at h
    rw [show w.heap[(⟨b, i, none⟩ : Addr).block]? = _ from ho] at h
    cases o with
    | cells c e f =>
      have hc : c[i]? = some v := by simpa using h
      have : c.setIfInBounds i v = c := by
        apply Array.ext_getElem?
        intro j
        rw [Array.getElem?_setIfInBounds]
        split
        · rename_i e; subst e
          have hi := (Array.getElem?_eq_some_iff.1 hc).1
          simp only [hi, if_true]
          exact hc.symm
        · rfl
      simp [this]
    | _ => rfl
  have hm : (w.setCell ⟨b, i, none⟩ v).heap = w.heap := by
    apply Array.ext_getElem?
    intro j
    simp only [World.setCell]
    rw [Array.getElem?_modify]
    split
    · rename_i e
      subst e
      cases hj : w.heap[b]? with
      | none => rfl
      | some o => have := hh o hj; cases o <;> simp_all
    · rfl
  have : w.setCell ⟨b, i, none⟩ v = { w with heap := (w.setCell ⟨b, i, none⟩ v).heap } := rfl
  rw [this, hm]

theorem enter_tk (cap : Array Value) (w : World) : (callFunc 31 cap).run Tryz.prog w = .ok (.enter 31 cap) w := by kernel_rfl
def tkBlocks (s set : ByteArray) (kd : Int) : List Obj := [.cells #[.string s] 9, .cells #[.int .i64 kd] 3, .cells #[.string set] 9, .cells #[.slice none 0 0] 22]

set_option maxHeartbeats 2000000 in
theorem tokens_wrap (s set : ByteArray) (kd : Int) (n : Nat) (f : Nat → Option Value) (w : World)
    (FC : ∀ a0 a1 a2 a3 wA, Below w.heap.size w wA → wA.cell? ⟨a0, 0, none⟩ = some (.int .i64 kd) → wA.cell? ⟨a1, 0, none⟩ = some (.string set) → wA.cell? ⟨a2, 0, none⟩ = some (.string s) → One wA a3 (.slice none 0 0) →
      Calls Tryz.prog 31 #[.pointer (some ⟨a0, 0, none⟩), .pointer (some ⟨a1, 0, none⟩), .pointer (some ⟨a2, 0, none⟩), .pointer (some ⟨a3, 0, none⟩)] wA fun x w' => x = .returned (.tuple #[]) ∧ ∃ d dcap, One w' a3 (.slice (some ⟨d, 0, none⟩) n dcap) ∧ CellsAt w' d f ∧ wA.heap.size ≤ d ∧
        wA.heap.size ≤ w'.heap.size ∧ (∀ k, k < wA.heap.size → k ≠ a3 → w'.heap[k]? = wA.heap[k]?) ∧ w'.os = wA.os ∧ w'.tape = wA.tape ∧ w'.output = wA.output) :
    Calls Tryz.prog 13 #[.string s, .int .i64 kd, .string set] w fun x w' => ∃ d dcap, x = .returned (.slice (some ⟨d, 0, none⟩) n dcap) ∧ CellsAt w' d f ∧ Below w.heap.size w w' := by
  have hmf : ∀ (fn : Fn) (first cap : Array Value) (w : World), (Instr.makeFunc fn first cap).run Tryz.prog w = .ok (.func fn first cap) w := fun _ _ _ _ => rfl
  have HF := Lib.hid FC
  clear FC
  go_enter Tryz.func13, Tryz.ntmps13
  go_wp2_with fail
  change Calls _ _ _ (allocs w (tkBlocks s set kd)) _
  have o0 : One (allocs w (tkBlocks s set kd)) w.heap.size (.string s) := allocs_one (i := 0) rfl rfl
  have o1 : One (allocs w (tkBlocks s set kd)) (w.heap.size + 1) (.int .i64 kd) := allocs_one (i := 1) rfl rfl
  have o2 : One (allocs w (tkBlocks s set kd)) (w.heap.size + 2) (.string set) := allocs_one (i := 2) rfl rfl
  have o3 : One (allocs w (tkBlocks s set kd)) (w.heap.size + 3) (.slice none 0 0) := allocs_one (i := 3) rfl rfl
  have hb8 : Below w.heap.size w (allocs w (tkBlocks s set kd)) := allocs_below _ w _ (Nat.le_refl _)
  have hz : (allocs w (tkBlocks s set kd)).heap.size = w.heap.size + 4 := allocs_size _ _
  generalize allocs w (tkBlocks s set kd) = W at *
  refine (safe_any 31 _ W (fun wx => ∃ d dcap, One wx (w.heap.size + 3) (.slice (some ⟨d, 0, none⟩) n dcap) ∧ CellsAt wx d f ∧ W.heap.size < d ∧ Below w.heap.size w wx ∧ W.heap.size < wx.heap.size) (fun w => enter_tk _ w) ?_).mono ?_
  · have hb5 : Below W.heap.size W (W.alloc (.cells #[.bool false] 4)) := (Below.refl _ _).alloc (Nat.le_refl _) _
    have hz' : (W.alloc (.cells #[.bool false] 4)).heap.size = w.heap.size + 5 := by simp; omega
    have hok : (W.alloc (.cells #[.bool false] 4)).heap[W.heap.size]? = some (.cells #[.bool false] 4) := heap_alloc_new _ _
    have hb9 := hb8.alloc (by omega) (.cells #[.bool false] 4)
    refine (HF.out (w.heap.size + 1) (w.heap.size + 2) w.heap.size (w.heap.size + 3) _ hb9 (o1.below hb5).cell (o2.below hb5).cell (o0.below hb5).cell (o3.below hb5)).mono ?_
    rintro e wx ⟨rfl, d, dcap, p1, p2, p3, hs, hh, ho⟩
    refine ⟨rfl, ⟨d, dcap, p1, p2, by omega, ⟨ho.1.trans hb9.os, ho.2.1.trans hb9.tape, ho.2.2.trans hb9.output, by omega, fun k hk => by rw [hh k (by omega) (by omega)]; exact hb9.block k hk⟩, by omega⟩, ?_⟩
    rw [hh W.heap.size (by omega) (by omega)]; exact hok
  · rintro e w' ⟨rfl, wx, ⟨d, dcap, p1, p2, p3, hbx, hlt⟩, hh, rfl⟩
    have s1 := (p1.other (c := W.heap.size) (j := 0) (by omega) (.bool true)).other (c := W.heap.size) (j := 0) (by omega) (.bool true)
    have s2 := (p2.other (c := W.heap.size) (j := 0) (y := .bool true) (by omega)).other (c := W.heap.size) (j := 0) (y := .bool true) (by omega)
    have hb7 := (hbx.setCell (p := ⟨W.heap.size, 0, none⟩) (by simp; omega) (.bool true)).setCell (p := ⟨W.heap.size, 0, none⟩) (by simp; omega) (.bool true)
    generalize (wx.setCell ⟨W.heap.size, 0, none⟩ (.bool true)).setCell ⟨W.heap.size, 0, none⟩ (.bool true) = W5 at *
    obtain ⟨A3, hA3⟩ : ∃ a, w.heap.size + 1 + 1 + 1 = a := ⟨_, rfl⟩
    have s1' : One W5 A3 (.slice (some ⟨d, 0, none⟩) n dcap) := hA3 ▸ s1
    rw [hA3]
    have c3 := s1'.cell
    have f3 := s1'.free
    have H := Lib.hid (And.intro s2 hb7)
    have e3 := setCell_id c3
    clear s1 s1' s2 p1 p2 p3 hbx hlt hh hb7 hb8 hz o0 o1 o2 o3 hmf HF hA3
    go_wp2
    first | exact bodyPost_ret (v := .slice (some ⟨d, 0, none⟩) n dcap) (by simp [results, Tryz.results13, go_sem, c3, e3]) rfl ⟨d, dcap, rfl, H.out.1, H.out.2⟩ | (rw [e3]; exact bodyPost_ret (v := .slice (some ⟨d, 0, none⟩) n dcap) (by simp [results, Tryz.results13, go_sem, c3]) rfl ⟨d, dcap, rfl, H.out.1, H.out.2⟩)
end Go.Proofs.YtigpnpdpokgmkaaGreat
