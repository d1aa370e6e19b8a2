/- The contract of impl.Fragments at terms between code points, in order. -/
import Derived.Test.YtbfelpgojgaeoaaDoorFrags
set_option linter.unusedVariables false
set_option linter.unusedSimpArgs false
namespace Go.Proofs.YtbfelpgojgaeoaaDoor
open Go Go.RowKit

theorem enter_frags (cap : Array Value) (w : World) : (callFunc 12 cap).run Tryd.prog w = .ok (.enter 12 cap) w := by kernel_rfl
def frBlocks (s : ByteArray) (size : Int) (v : Value) : List Obj := [.cells #[.string s] 9, .cells #[.int .i64 size] 3, .cells #[v] 22, .cells #[.slice none 0 0] 22]

set_option maxHeartbeats 4000000 in
theorem impl_frags (s : ByteArray) (rs : List Nat) (h : Txt s rs) (hnr : 65533 ∉ rs) (size m : Nat) (st en : Nat → Nat) (hsz : s.size ≤ 2147483647) (hsize : size ≤ 2147483647) (hm2 : m ≤ 1000) (O : InOrder m rs.length st en)
    (b o cap : Nat) (ad : Option Addr) (xs : List (Int × Int)) (hxl : xs.length = m) (had : m = 0 ∨ ad = some ⟨b, o, none⟩) (hcap : m ≤ cap)
    (hx : ∀ i (h : i < xs.length), xs[i] = ((off rs (st i) : Int), (off rs (en i) : Int)) ∧ off rs (st i) ≤ off rs (en i) ∧ off rs (en i) ≤ 2147483647) (w : World) (hT : Lib.Utf8Tabs 0 1 w) (hp : PairsAt w b o xs) :
    Calls Tryd.prog 7 #[.string s, .int .i64 size, .slice ad m cap] w fun e w' => ∃ g gc fs, e = .returned (.slice (some ⟨g, 0, none⟩) (List.length fs) gc) ∧ PairsAt w' g 0 (List.map (prOf rs) fs) ∧ Fine size m rs.length st en fs ∧ Below w.heap.size w w' := by
  have hmf : ∀ (fn : Fn) (first cap : Array Value) (w : World), (Instr.makeFunc fn first cap).run Tryd.prog w = .ok (.func fn first cap) w := fun _ _ _ _ => rfl
  have F := Lib.hid (fun a0 a1 a2 a3 W => frags_closure s rs h hnr size m st en hsz hsize hm2 O a0 a1 a2 a3 b o cap ad xs hxl had hcap hx W)
  have HT := Lib.hid hT
  have HP := Lib.hid hp
  clear hT hp h hnr O hx hxl had hcap
  go_enter Tryd.func7, Tryd.ntmps7
  go_wp2_with fail
  obtain ⟨v, hv⟩ : ∃ v, Value.slice ad m cap = v := ⟨_, rfl⟩
  rw [hv] at F ⊢
  change Calls _ _ _ (allocs w (frBlocks s size v)) _
  have o0 : One (allocs w (frBlocks s size v)) w.heap.size (.string s) := allocs_one (i := 0) rfl rfl
  have o1 : One (allocs w (frBlocks s size v)) (w.heap.size + 1) (.int .i64 size) := allocs_one (i := 1) rfl rfl
  have o2 : One (allocs w (frBlocks s size v)) (w.heap.size + 2) v := allocs_one (i := 2) rfl rfl
  have o3 : One (allocs w (frBlocks s size v)) (w.heap.size + 3) (.slice none 0 0) := allocs_one (i := 3) rfl rfl
  have hb8 : Below w.heap.size w (allocs w (frBlocks s size v)) := allocs_below _ w _ (Nat.le_refl _)
  have hz : (allocs w (frBlocks s size v)).heap.size = w.heap.size + 4 := allocs_size _ _
  have HT8 := Lib.hid (tabsBelow hb8 HT.out)
  have HP8 := Lib.hid (HP.out.below hb8)
  generalize allocs w (frBlocks s size v) = W at *
  refine (safe_any 12 _ W (fun wx => ∃ g gc fs, One wx (w.heap.size + 3) (.slice (some ⟨g, 0, none⟩) (List.length fs) gc) ∧ PairsAt wx g 0 (List.map (prOf rs) fs) ∧ Fine size m rs.length st en fs ∧ Below w.heap.size w wx ∧ W.heap.size < g ∧ W.heap.size < wx.heap.size) (fun w => enter_frags _ w) ?_).mono ?_
  · have hb5 : Below W.heap.size W (W.alloc (.cells #[.bool false] 4)) := (Below.refl _ _).alloc (Nat.le_refl _) _
    have hz' : (W.alloc (.cells #[.bool false] 4)).heap.size = w.heap.size + 5 := by simp; omega
    have hok : (W.alloc (.cells #[.bool false] 4)).heap[W.heap.size]? = some (.cells #[.bool false] 4) := heap_alloc_new _ _
    have hb9 := hb8.alloc (by omega) (.cells #[.bool false] 4)
    refine (F.out (w.heap.size + 1) w.heap.size (w.heap.size + 2) (w.heap.size + 3) _ (tabsBelow hb5 HT8.out) (HP8.out.below hb5) (o1.below hb5).cell (o0.below hb5).cell (o2.below hb5).cell (o3.below hb5)).mono ?_
    rintro e wx ⟨rfl, w1, v1, fs, hbw, hO, hG⟩
    have hsw := hbw.size
    have hso := hO.size
    have hlen := hG.len
    rcases hO.shape with ⟨h0, _⟩ | ⟨g, gc, rfl, hge⟩
    · simp at h0; rw [h0] at hlen; simp at hlen; omega
    · have hpr := hO.pairs rfl
      have hone := hO.one
      simp only [List.length_map] at hone
      refine ⟨rfl, ⟨g, gc, fs, hone, hpr, hG, ⟨hO.os.trans ((hb9.trans (hbw.mono (by omega))).os), hO.tape.trans ((hb9.trans (hbw.mono (by omega))).tape), hO.output.trans ((hb9.trans (hbw.mono (by omega))).output), by omega, fun k hk => ?_⟩, by omega, by omega⟩, ?_⟩
      · rw [hO.heap k (by omega) (by omega)]; exact (hb9.trans (hbw.mono (by omega))).block k hk
      · rw [hO.heap W.heap.size (by omega) (by omega), hbw.block W.heap.size (by omega)]; exact hok
  · rintro e w' ⟨rfl, wx, ⟨g, gc, fs, p1, hpr, hG, hbx, hlg, hlt⟩, hh, rfl⟩
    have s1 := (p1.other (c := W.heap.size) (j := 0) (by omega) (.bool true)).other (c := W.heap.size) (j := 0) (by omega) (.bool true)
    have hb7 := (hbx.setCell (p := ⟨W.heap.size, 0, none⟩) (by simp; omega) (.bool true)).setCell (p := ⟨W.heap.size, 0, none⟩) (by simp; omega) (.bool true)
    have hp2 : PairsAt ((wx.setCell ⟨W.heap.size, 0, none⟩ (.bool true)).setCell ⟨W.heap.size, 0, none⟩ (.bool true)) g 0 (List.map (prOf rs) fs) :=
      fun i hi => ⟨cell_other (by omega) (cell_other (by omega) (hpr i hi).1), cell_other (by omega) (cell_other (by omega) (hpr i hi).2)⟩
    generalize (wx.setCell ⟨W.heap.size, 0, none⟩ (.bool true)).setCell ⟨W.heap.size, 0, none⟩ (.bool true) = W5 at *
    obtain ⟨A3, hA3⟩ : ∃ a, w.heap.size + 1 + 1 + 1 = a := ⟨_, rfl⟩
    have s1' : One W5 A3 (.slice (some ⟨g, 0, none⟩) (List.length fs) gc) := hA3 ▸ s1
    rw [hA3]
    have hg3 : g ≠ A3 := by omega
    have hA3w : w.heap.size ≤ A3 := by omega
    obtain ⟨k, hV⟩ : ∃ k, List.length fs = k := ⟨_, rfl⟩
    rw [hV] at s1'
    have c3 := s1'.cell
    have f3 := s1'.free
    have t1 : (W5.setCell ⟨A3, 0, none⟩ (.slice (some ⟨g, 0, none⟩) k gc)).cell? ⟨A3, 0, none⟩ = _ := (s1'.set (.slice (some ⟨g, 0, none⟩) k gc)).cell
    have HB := Lib.hid hb7
    have HP2 := Lib.hid hp2
    have HG := Lib.hid hG
    have HV := Lib.hid hV
    clear s1 s1' p1 hbx hlt hh hb7 hb8 hz o0 o1 o2 o3 hmf F HT HT8 HP HP8 hpr hp2 hG hV hlg
    go_wp2
    exact bodyPost_ret (v := .slice (some ⟨g, 0, none⟩) k gc) (by simp [results, Tryd.results7, go_sem, t1]) rfl ⟨g, gc, fs, by rw [HV.out], fun i hi => ⟨cell_other hg3 (HP2.out i hi).1, cell_other hg3 (HP2.out i hi).2⟩, HG.out, HB.out.setCell (by simp; omega) _⟩
end Go.Proofs.YtbfelpgojgaeoaaDoor
