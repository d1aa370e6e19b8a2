/- The contract of impl.SnowStepped, from what its closure does; laws.zzFits7. -/
import Derived.Test.YtaohmmpfiehniaaSpecStep
import Derived.Test.YtaohmmpfiehniaaClosure
import Derived.Test.YtaohmmpfiehniaaAwake
set_option linter.unusedVariables false
set_option linter.unusedSimpArgs false
namespace Go.Proofs.Ytaohmmpfiehniaa
open Go Go.RowKit

def stBlocks' (s : ByteArray) (r1 r2 rv kd N st : Int) (sv : Value) (u : ByteArray) (f : Bool) : List Obj := [.cells #[.string s, .int .i64 r1, .int .i64 r2, .int .i64 rv] 27, .cells #[.int .i64 kd, .int .i64 N, .int .i64 st, sv, .string u, .bool f] 32,
  .cells #[.string ⟨#[]⟩, .int .i64 0, .int .i64 0, .int .i64 0] 27, .cells #[.string ⟨#[]⟩] 9, .cells #[.bool false] 4]

set_option maxHeartbeats 4000000 in
theorem stepped_of (s : ByteArray) (r1 r2 rv : Int) (kd N st : Int) (sv : Value) (u : ByteArray) (f : Bool) (told : Bool) (txt tq : ByteArray) (q1 q2 q3 : Int) (w : World)
    (FC : ∀ a0 a1 a2 a3 a4 wA, Below w.heap.size w wA → w.heap.size ≤ a2 → RowAt wA a0 #[.string s, .int .i64 r1, .int .i64 r2, .int .i64 rv] → RowAt wA a1 #[.int .i64 kd, .int .i64 N, .int .i64 st, sv, .string u, .bool f] →
      One wA a2 (.bool false) → One wA a3 (.string ⟨#[]⟩) → BoxAt wA a4 #[.string ⟨#[]⟩, .int .i64 0, .int .i64 0, .int .i64 0] → a2 ≠ a3 → a2 ≠ a4 → a3 ≠ a4 → a1 ≠ a2 → a1 ≠ a3 →
      Calls Try.prog 30 #[.pointer (some ⟨a0, 0, none⟩), .pointer (some ⟨a1, 0, none⟩), .pointer (some ⟨a2, 0, none⟩), .pointer (some ⟨a3, 0, none⟩), .pointer (some ⟨a4, 0, none⟩)] wA fun x w' =>
        x = .returned (.tuple #[]) ∧ One w' a2 (.bool told) ∧ One w' a3 (.string txt) ∧ BoxAt w' a4 #[.string tq, .int .i64 q1, .int .i64 q2, .int .i64 q3] ∧
        wA.heap.size ≤ w'.heap.size ∧ (∀ k, k < wA.heap.size → k ≠ a2 → k ≠ a3 → k ≠ a4 → w'.heap[k]? = wA.heap[k]?) ∧ w'.os = wA.os ∧ w'.tape = wA.tape ∧ w'.output = wA.output) :
    Calls Try.prog 16 #[snowV s r1 r2 rv, stepV' kd N st sv u f] w fun e w' => e = .returned (.tuple #[snowV tq q1 q2 q3, .string txt, .bool told]) ∧ Below w.heap.size w w' := by
  have hmf : ∀ (fn : Fn) (first cap : Array Value) (w : World), (Instr.makeFunc fn first cap).run Try.prog w = .ok (.func fn first cap) w := fun _ _ _ _ => rfl
  have HF := Lib.hid FC
  clear FC
  unfold snowV stepV'
  go_enter Try.func16, Try.ntmps16
  go_wp2_with fail
  change Calls _ _ _ (allocs w (stBlocks' s r1 r2 rv kd N st sv u f)) _
  have r0 : RowAt (allocs w (stBlocks' s r1 r2 rv kd N st sv u f)) w.heap.size #[.string s, .int .i64 r1, .int .i64 r2, .int .i64 rv] := allocs_row (i := 0) rfl rfl
  have r1' : RowAt (allocs w (stBlocks' s r1 r2 rv kd N st sv u f)) (w.heap.size + 1) #[.int .i64 kd, .int .i64 N, .int .i64 st, sv, .string u, .bool f] := allocs_row (i := 1) rfl rfl
  have o2 : BoxAt (allocs w (stBlocks' s r1 r2 rv kd N st sv u f)) (w.heap.size + 2) #[.string ⟨#[]⟩, .int .i64 0, .int .i64 0, .int .i64 0] := allocs_at (stBlocks' s r1 r2 rv kd N st sv u f) w 2 (by show 2 < 5; omega)
  have o3 : One (allocs w (stBlocks' s r1 r2 rv kd N st sv u f)) (w.heap.size + 3) (.string ⟨#[]⟩) := allocs_one (i := 3) rfl rfl
  have o4 : One (allocs w (stBlocks' s r1 r2 rv kd N st sv u f)) (w.heap.size + 4) (.bool false) := allocs_one (i := 4) rfl rfl
  have hb8 : Below w.heap.size w (allocs w (stBlocks' s r1 r2 rv kd N st sv u f)) := allocs_below _ w _ (Nat.le_refl _)
  have hz : (allocs w (stBlocks' s r1 r2 rv kd N st sv u f)).heap.size = w.heap.size + 5 := allocs_size _ _
  generalize allocs w (stBlocks' s r1 r2 rv kd N st sv u f) = W at *
  refine (safe_any 30 _ W (fun wx => One wx (w.heap.size + 3) (.string txt) ∧ BoxAt wx (w.heap.size + 2) #[.string tq, .int .i64 q1, .int .i64 q2, .int .i64 q3] ∧ One wx (w.heap.size + 4) (.bool told) ∧ Below w.heap.size w wx ∧ W.heap.size < wx.heap.size) (fun w => enter_st _ w) ?_).mono ?_
  · have hb5 : Below W.heap.size W (W.alloc (.cells #[.bool false] 4)) := (Below.refl _ _).alloc (Nat.le_refl _) _
    have hz' : (W.alloc (.cells #[.bool false] 4)).heap.size = w.heap.size + 6 := by simp; omega
    have hok : (W.alloc (.cells #[.bool false] 4)).heap[W.heap.size]? = some (.cells #[.bool false] 4) := heap_alloc_new _ _
    have hb9 := hb8.alloc (by omega) (.cells #[.bool false] 4)
    refine (HF.out w.heap.size (w.heap.size + 1) (w.heap.size + 4) (w.heap.size + 3) (w.heap.size + 2) _ hb9 (by omega) (r0.below hb5) (r1'.below hb5) (o4.below hb5) (o3.below hb5) (o2.below hb5) (by omega) (by omega) (by omega) (by omega) (by omega)).mono ?_
    rintro e wx ⟨rfl, p4, p3, p2, hs, hh, ho⟩
    refine ⟨rfl, ⟨p3, p2, p4, ⟨ho.1.trans hb9.os, ho.2.1.trans hb9.tape, ho.2.2.trans hb9.output, by omega, fun k hk => by rw [hh k (by omega) (by omega) (by omega) (by omega)]; exact hb9.block k hk⟩, by omega⟩, ?_⟩
    rw [hh W.heap.size (by omega) (by omega) (by omega) (by omega)]; exact hok
  · rintro e w' ⟨rfl, wx, ⟨p3, p2, p4, hbx, hlt⟩, hh, rfl⟩
    have s3 := (p3.other (c := W.heap.size) (j := 0) (by omega) (.bool true)).other (c := W.heap.size) (j := 0) (by omega) (.bool true)
    have s4 := (p4.other (c := W.heap.size) (j := 0) (by omega) (.bool true)).other (c := W.heap.size) (j := 0) (by omega) (.bool true)
    have s2 := (p2.other (c := W.heap.size) (j := 0) (by omega) (.bool true)).other (c := W.heap.size) (j := 0) (by omega) (.bool true)
    have hb7 := (hbx.setCell (p := ⟨W.heap.size, 0, none⟩) (by simp; omega) (.bool true)).setCell (p := ⟨W.heap.size, 0, none⟩) (by simp; omega) (.bool true)
    generalize (wx.setCell ⟨W.heap.size, 0, none⟩ (.bool true)).setCell ⟨W.heap.size, 0, none⟩ (.bool true) = W5 at *
    obtain ⟨A2, hA2⟩ : ∃ a, w.heap.size + 1 + 1 = a := ⟨_, rfl⟩
    obtain ⟨A3, hA3⟩ : ∃ a, w.heap.size + 1 + 1 + 1 = a := ⟨_, rfl⟩
    obtain ⟨A4, hA4⟩ : ∃ a, w.heap.size + 1 + 1 + 1 + 1 = a := ⟨_, rfl⟩
    have s2' : BoxAt W5 A2 #[.string tq, .int .i64 q1, .int .i64 q2, .int .i64 q3] := hA2 ▸ s2
    have s3' : One W5 A3 (.string txt) := hA3 ▸ s3
    have s4' : One W5 A4 (.bool told) := hA4 ▸ s4
    rw [hA4, hA3, hA2]
    have c20 : W5.cell? ⟨A2, 0, none⟩ = some (.string tq) := s2'.row 0 _ rfl
    have c21 : W5.cell? ⟨A2, 1, none⟩ = some (.int .i64 q1) := s2'.row 1 _ rfl
    have c22 : W5.cell? ⟨A2, 2, none⟩ = some (.int .i64 q2) := s2'.row 2 _ rfl
    have c23 : W5.cell? ⟨A2, 3, none⟩ = some (.int .i64 q3) := s2'.row 3 _ rfl
    have fz : ∀ i, W5.frozen? ⟨A2, i, none⟩ = false := s2'.free
    have c3 := s3'.cell
    have c4 := s4'.cell
    have f3 := s3'.free
    have f4 := s4'.free
    have HB := Lib.hid hb7
    clear s2 s3 s4 s2' s3' s4' p2 p3 p4 hbx hlt hh hb7 hb8 hz r0 r1' o2 o3 o4 hmf HF
    go_wp2_with fail
    have e20 : W5.drew.setCell ⟨A2, 0, none⟩ (.string tq) = W5.drew := setCell_id c20
    have e21 : W5.drew.setCell ⟨A2, 1, none⟩ (.int .i64 q1) = W5.drew := setCell_id c21
    have e22 : W5.drew.setCell ⟨A2, 2, none⟩ (.int .i64 q2) = W5.drew := setCell_id c22
    have e23 : W5.drew.setCell ⟨A2, 3, none⟩ (.int .i64 q3) = W5.drew := setCell_id c23
    have e3 : W5.drew.setCell ⟨A3, 0, none⟩ (.string txt) = W5.drew := setCell_id c3
    have e4 : W5.drew.setCell ⟨A4, 0, none⟩ (.bool told) = W5.drew := setCell_id c4
    go_region_held3 (fun w' => w'.cell? ⟨A2, 0, none⟩ = some (.string tq) ∧ w'.cell? ⟨A2, 1, none⟩ = some (.int .i64 q1) ∧ w'.cell? ⟨A2, 2, none⟩ = some (.int .i64 q2) ∧ w'.cell? ⟨A2, 3, none⟩ = some (.int .i64 q3) ∧ w'.cell? ⟨A3, 0, none⟩ = some (.string txt) ∧ w'.cell? ⟨A4, 0, none⟩ = some (.bool told)) (first | (simp only [e20, e21, e22, e23, e3, e4]; exact ⟨c20, c21, c22, c23, c3, c4⟩) | exact ⟨c20, c21, c22, c23, c3, c4⟩) (first | fail)
    all_goals
      have d20 : W5.drew.cell? ⟨A2, 0, none⟩ = some (.string tq) := c20
      have d21 : W5.drew.cell? ⟨A2, 1, none⟩ = some (.int .i64 q1) := c21
      have d22 : W5.drew.cell? ⟨A2, 2, none⟩ = some (.int .i64 q2) := c22
      have d23 : W5.drew.cell? ⟨A2, 3, none⟩ = some (.int .i64 q3) := c23
      have d3 : W5.drew.cell? ⟨A3, 0, none⟩ = some (.string txt) := c3
      have d4 : W5.drew.cell? ⟨A4, 0, none⟩ = some (.bool told) := c4
      have HB6 : Below w.heap.size w W5.drew := below_drewN HB.out 1
      have HB7 := Lib.hid HB6
      clear HB6 HB e20 e21 e22 e23 e3 e4 c20 c21 c22 c23 c3 c4 fz f3 f4 hA2 hA3 hA4
      generalize W5.drew = W6 at *
      go_wp2
      exact bodyPost_ret (v := .tuple #[snowV tq q1 q2 q3, .string txt, .bool told]) (by simp [results, Try.results16, go_sem, snowV, d20, d21, d22, d23, d3, d4]) rfl ⟨rfl, HB7.out⟩
end Go.Proofs.Ytaohmmpfiehniaa
