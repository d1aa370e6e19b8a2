/- The contracts of impl.SnowStepped at the numbers that snowAlive asks, and of snowAlive. -/
import Derived.Test.YtaohmmpfiehniaaAlive
set_option linter.unusedVariables false
set_option linter.unusedSimpArgs false
namespace Go.Proofs.Ytaohmmpfiehniaa
open Go.RowKit

/-- A cell that is given the value that it holds: the world is as it was. -/
theorem setCell_id {w : World} {b i : Nat} {v : Value} (h : w.cell? ⟨b, i, none⟩ = some v) : w.setCell ⟨b, i, none⟩ v = w := by
  have hh : ∀ o, w.heap[b]? = some o → (match o with | .cells c elem frozen => Obj.cells (c.setIfInBounds i v) elem frozen | o => o) = o := by
    intro o ho
    unfold World.cell? at h
    rw [show w.heap[(⟨b, i, none⟩ : Addr).block]? = _ from ho] at h
    cases o with
    | cells c e f =>
      have hc : c[i]? = some v := by simpa using h
      have : c.setIfInBounds i v = c := by
        apply Array.ext_getElem?
        intro j
        rw [Array.getElem?_setIfInBounds]
        split
        · rename_i e; subst e
          have hi := (Array.getElem?_eq_some_iff.1 hc).1
          simp only [hi, if_true]
          exact hc.symm
        · rfl
      simp [this]
    | _ => rfl
  have hm : (w.setCell ⟨b, i, none⟩ v).heap = w.heap := by
    apply Array.ext_getElem?
    intro j
    simp only [World.setCell]
    rw [Array.getElem?_modify]
    split
    · rename_i e
      subst e
      cases hj : w.heap[b]? with
      | none => rfl
      | some o => have := hh o hj; cases o <;> simp_all
    · rfl
  have : w.setCell ⟨b, i, none⟩ v = { w with heap := (w.setCell ⟨b, i, none⟩ v).heap } := rfl
  rw [this, hm]

theorem enter_st (cap : Array Value) (w : World) : (callFunc 30 cap).run Try.prog w = .ok (.enter 30 cap) w := by kernel_rfl
def stepV (tb : Nat) : Value := .agg #[.int .i64 3, .int .i64 0, .int .i64 0, .slice (some ⟨tb, 0, none⟩) 2 2, .string ⟨#[]⟩, .bool false]
def stBlocks (tb : Nat) : List Obj := [.cells #[.string sTables, .int .i64 6, .int .i64 6, .int .i64 6] 27, .cells #[.int .i64 3, .int .i64 0, .int .i64 0, .slice (some ⟨tb, 0, none⟩) 2 2, .string ⟨#[]⟩, .bool false] 32,
  .cells #[.string ⟨#[]⟩, .int .i64 0, .int .i64 0, .int .i64 0] 27, .cells #[.string ⟨#[]⟩] 9, .cells #[.bool false] 4]

set_option maxHeartbeats 1000000 in
theorem stepped (tb : Nat) (w : World) (htb : w.cell? ⟨tb, 0, none⟩ = some (.string sEs)) :
    Calls Try.prog 16 #[snowV sTables 6 6 6, stepV tb] w fun e w' => e = .returned (.tuple #[snowV sTabl 4 4 4, .string sEs, .bool false]) ∧ Below w.heap.size w w' := by
  have hmf : ∀ (fn : Fn) (first cap : Array Value) (w : World), (Instr.makeFunc fn first cap).run Try.prog w = .ok (.func fn first cap) w := fun _ _ _ _ => rfl
  unfold snowV stepV
  go_enter Try.func16, Try.ntmps16
  go_wp2_with fail
  change Calls _ _ _ (allocs w (stBlocks tb)) _
  have r0 : RowAt (allocs w (stBlocks tb)) w.heap.size #[.string sTables, .int .i64 6, .int .i64 6, .int .i64 6] := allocs_row (i := 0) rfl rfl
  have r1 : RowAt (allocs w (stBlocks tb)) (w.heap.size + 1) #[.int .i64 3, .int .i64 0, .int .i64 0, .slice (some ⟨tb, 0, none⟩) 2 2, .string ⟨#[]⟩, .bool false] := allocs_row (i := 1) rfl rfl
  have o2 : BoxAt (allocs w (stBlocks tb)) (w.heap.size + 2) #[.string ⟨#[]⟩, .int .i64 0, .int .i64 0, .int .i64 0] := allocs_at (stBlocks tb) w 2 (by show 2 < 5; omega)
  have o3 : One (allocs w (stBlocks tb)) (w.heap.size + 3) (.string ⟨#[]⟩) := allocs_one (i := 3) rfl rfl
  have o4 : One (allocs w (stBlocks tb)) (w.heap.size + 4) (.bool false) := allocs_one (i := 4) rfl rfl
  have hb8 : Below w.heap.size w (allocs w (stBlocks tb)) := allocs_below _ w _ (Nat.le_refl _)
  have hz : (allocs w (stBlocks tb)).heap.size = w.heap.size + 5 := allocs_size _ _
  have m0 := belowRow hb8 htb
  generalize allocs w (stBlocks tb) = W at *
  refine (safe_any 30 _ W (fun wx => One wx (w.heap.size + 3) (.string sEs) ∧ BoxAt wx (w.heap.size + 2) #[.string sTabl, .int .i64 4, .int .i64 4, .int .i64 4] ∧ One wx (w.heap.size + 4) (.bool false) ∧ Below w.heap.size w wx ∧ W.heap.size < wx.heap.size) (fun w => enter_st _ w) ?_).mono ?_
  · have hb5 : Below W.heap.size W (W.alloc (.cells #[.bool false] 4)) := (Below.refl _ _).alloc (Nat.le_refl _) _
    have q1 := r1.below hb5
    have q4 := o4.below hb5
    have hz' : (W.alloc (.cells #[.bool false] 4)).heap.size = w.heap.size + 6 := by simp; omega
    have hok : (W.alloc (.cells #[.bool false] 4)).heap[W.heap.size]? = some (.cells #[.bool false] 4) := heap_alloc_new _ _
    have hb9 := hb8.alloc (by omega) (.cells #[.bool false] 4)
    refine (st_closure w.heap.size (w.heap.size + 1) (w.heap.size + 4) (w.heap.size + 3) (w.heap.size + 2) tb _ #[] _ (r0.below hb5) (q1 0 _ rfl) (q1 3 _ rfl) (belowRow hb5 m0) (o3.below hb5) _ _ _ _ (o2.below hb5) (by omega)).mono ?_
    rintro e wx ⟨rfl, p3, p2, hs, hh, ho⟩
    refine ⟨rfl, ⟨p3, p2, ⟨?_, ?_⟩, ⟨ho.1.trans hb9.os, ho.2.1.trans hb9.tape, ho.2.2.trans hb9.output, by omega, fun k hk => by rw [hh k (by omega) (by omega) (by omega)]; exact hb9.block k hk⟩, by omega⟩, ?_⟩
    · have := q4.cell; unfold World.cell? at this ⊢; rw [show wx.heap[(⟨w.heap.size + 4, 0, none⟩ : Addr).block]? = _ from hh (w.heap.size + 4) (by omega) (by omega) (by omega)]; exact this
    · have := q4.free; unfold World.frozen? at this ⊢; rw [show wx.heap[(⟨w.heap.size + 4, 0, none⟩ : Addr).block]? = _ from hh (w.heap.size + 4) (by omega) (by omega) (by omega)]; exact this
    · rw [hh W.heap.size (by omega) (by omega) (by omega)]; exact hok
  · rintro e w' ⟨rfl, wx, ⟨p3, p2, p4, hbx, hlt⟩, hh, rfl⟩
    have s3 := (p3.other (c := W.heap.size) (j := 0) (by omega) (.bool true)).other (c := W.heap.size) (j := 0) (by omega) (.bool true)
    have s4 := (p4.other (c := W.heap.size) (j := 0) (by omega) (.bool true)).other (c := W.heap.size) (j := 0) (by omega) (.bool true)
    have s2 := (p2.other (c := W.heap.size) (j := 0) (by omega) (.bool true)).other (c := W.heap.size) (j := 0) (by omega) (.bool true)
    have hb7 := (hbx.setCell (p := ⟨W.heap.size, 0, none⟩) (by simp; omega) (.bool true)).setCell (p := ⟨W.heap.size, 0, none⟩) (by simp; omega) (.bool true)
    generalize (wx.setCell ⟨W.heap.size, 0, none⟩ (.bool true)).setCell ⟨W.heap.size, 0, none⟩ (.bool true) = W5 at *
    obtain ⟨A2, hA2⟩ : ∃ a, w.heap.size + 1 + 1 = a := ⟨_, rfl⟩
    obtain ⟨A3, hA3⟩ : ∃ a, w.heap.size + 1 + 1 + 1 = a := ⟨_, rfl⟩
    obtain ⟨A4, hA4⟩ : ∃ a, w.heap.size + 1 + 1 + 1 + 1 = a := ⟨_, rfl⟩
    have s2' : BoxAt W5 A2 #[.string sTabl, .int .i64 4, .int .i64 4, .int .i64 4] := hA2 ▸ s2
    have s3' : One W5 A3 (.string sEs) := hA3 ▸ s3
    have s4' : One W5 A4 (.bool false) := hA4 ▸ s4
    rw [hA4, hA3, hA2]
    have c20 : W5.cell? ⟨A2, 0, none⟩ = some (.string sTabl) := s2'.row 0 _ rfl
    have c21 : W5.cell? ⟨A2, 1, none⟩ = some (.int .i64 4) := s2'.row 1 _ rfl
    have c22 : W5.cell? ⟨A2, 2, none⟩ = some (.int .i64 4) := s2'.row 2 _ rfl
    have c23 : W5.cell? ⟨A2, 3, none⟩ = some (.int .i64 4) := s2'.row 3 _ rfl
    have fz : ∀ i, W5.frozen? ⟨A2, i, none⟩ = false := s2'.free
    have c3 := s3'.cell
    have c4 := s4'.cell
    have f3 := s3'.free
    have f4 := s4'.free
    have S2 := Lib.hid s2'
    have S3 := Lib.hid s3'
    have S4 := Lib.hid s4'
    have HB := Lib.hid hb7
    clear s2 s3 s4 s2' s3' s4' p2 p3 p4 hbx hlt hh hb7 hb8 hz m0 r0 r1 o2 o3 o4 hmf htb
    go_wp2_with fail
    have e20 : W5.drew.setCell ⟨A2, 0, none⟩ (.string sTabl) = W5.drew := setCell_id c20
    have e21 : W5.drew.setCell ⟨A2, 1, none⟩ (.int .i64 4) = W5.drew := setCell_id c21
    have e22 : W5.drew.setCell ⟨A2, 2, none⟩ (.int .i64 4) = W5.drew := setCell_id c22
    have e23 : W5.drew.setCell ⟨A2, 3, none⟩ (.int .i64 4) = W5.drew := setCell_id c23
    have e3 : W5.drew.setCell ⟨A3, 0, none⟩ (.string sEs) = W5.drew := setCell_id c3
    have e4 : W5.drew.setCell ⟨A4, 0, none⟩ (.bool false) = W5.drew := setCell_id c4
    go_region_held3 (fun w' => w'.cell? ⟨A2, 0, none⟩ = some (.string sTabl) ∧ w'.cell? ⟨A2, 1, none⟩ = some (.int .i64 4) ∧ w'.cell? ⟨A2, 2, none⟩ = some (.int .i64 4) ∧ w'.cell? ⟨A2, 3, none⟩ = some (.int .i64 4) ∧ w'.cell? ⟨A3, 0, none⟩ = some (.string sEs) ∧ w'.cell? ⟨A4, 0, none⟩ = some (.bool false)) (first | (simp only [e20, e21, e22, e23, e3, e4]; exact ⟨c20, c21, c22, c23, c3, c4⟩) | exact ⟨c20, c21, c22, c23, c3, c4⟩) (first | fail)
    have d20 : W5.drew.cell? ⟨A2, 0, none⟩ = some (.string sTabl) := c20
    have d21 : W5.drew.cell? ⟨A2, 1, none⟩ = some (.int .i64 4) := c21
    have d22 : W5.drew.cell? ⟨A2, 2, none⟩ = some (.int .i64 4) := c22
    have d23 : W5.drew.cell? ⟨A2, 3, none⟩ = some (.int .i64 4) := c23
    have d3 : W5.drew.cell? ⟨A3, 0, none⟩ = some (.string sEs) := c3
    have d4 : W5.drew.cell? ⟨A4, 0, none⟩ = some (.bool false) := c4
    have HB6 : Below w.heap.size w W5.drew := below_drewN HB.out 1
    have HB7 := Lib.hid HB6
    clear HB6 HB e20 e21 e22 e23 e3 e4 c20 c21 c22 c23 c3 c4 fz f3 f4 hA2 hA3 hA4
    generalize W5.drew = W6 at *
    go_wp2
    exact bodyPost_ret (v := .tuple #[snowV sTabl 4 4 4, .string sEs, .bool false]) (by simp [results, Try.results16, go_sem, snowV, d20, d21, d22, d23, d3, d4]) rfl ⟨rfl, HB7.out⟩

set_option maxHeartbeats 1000000 in
theorem awake (w : World) : Calls Try.prog 9 #[] w fun e w' => e = .returned (.bool true) ∧ Below w.heap.size w w' := by
  go_enter Try.func9, Try.ntmps9
  go_wp2_with fail
  refine (snow_new sTables rsTables runes_tables w).mono ?_
  rintro x w1 ⟨rfl, hb1⟩
  have hlen : ((rsTables.length : Nat) : Int) = 6 := rfl
  rw [bytes_tables, hlen]
  have HB1 := Lib.hid hb1
  clear hb1
  unfold snowV
  go_wp2_with fail
  change Calls _ _ _ (allocs w1 [.cells #[.string sTables, .int .i64 6, .int .i64 6, .int .i64 6] 27, .cells #[.string sEs, .string sS] 9]) _
  have hb2 := allocs_below [.cells #[.string sTables, .int .i64 6, .int .i64 6, .int .i64 6] 27, .cells #[.string sEs, .string sS] 9] w1 w1.heap.size (Nat.le_refl _)
  have r0 : RowAt (allocs w1 [.cells #[.string sTables, .int .i64 6, .int .i64 6, .int .i64 6] 27, .cells #[.string sEs, .string sS] 9]) w1.heap.size #[.string sTables, .int .i64 6, .int .i64 6, .int .i64 6] := allocs_row (i := 0) rfl rfl
  have r1 : RowAt (allocs w1 [.cells #[.string sTables, .int .i64 6, .int .i64 6, .int .i64 6] 27, .cells #[.string sEs, .string sS] 9]) (w1.heap.size + 1) #[.string sEs, .string sS] := allocs_row (i := 1) rfl rfl
  have HB2 := Lib.hid (HB1.out.trans (hb2.mono HB1.out.size))
  generalize allocs w1 [.cells #[.string sTables, .int .i64 6, .int .i64 6, .int .i64 6] 27, .cells #[.string sEs, .string sS] 9] = W at *
  refine (stepped (w1.heap.size + 1) W (r1 0 _ rfl)).mono ?_
  rintro x w2 ⟨rfl, hb3⟩
  have r2 := r0.below hb3
  have c0 : w2.cell? ⟨w1.heap.size, 0, none⟩ = some (.string sTables) := r2 0 _ rfl
  have HB3 := Lib.hid (HB2.out.trans (hb3.mono HB2.out.size))
  have hne := World.new_ne w2 _ c0
  clear hb3 r0 r1 r2 hb2
  have hb4 := Lib.hid (HB3.out.alloc HB3.out.size (.cells #[.string sTabl, .int .i64 4, .int .i64 4, .int .i64 4] 27))
  have c0' := cell_alloc c0 (.cells #[.string sTabl, .int .i64 4, .int .i64 4, .int .i64 4] 27)
  obtain ⟨A, hA⟩ : ∃ a, w1.heap.size = a := ⟨_, rfl⟩
  rw [hA] at c0 c0' hne ⊢
  unfold snowV
  go_wp2
  go_ret
  exact ⟨rfl, hb4.out⟩
end Go.Proofs.Ytaohmmpfiehniaa
