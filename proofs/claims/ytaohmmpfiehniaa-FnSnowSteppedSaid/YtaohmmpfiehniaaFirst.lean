/- The contract of impl.SnowFirst. -/
import Derived.Test.YtaohmmpfiehniaaPrefix
set_option linter.unusedVariables false
set_option linter.unusedSimpArgs false
namespace Go.Proofs.Ytaohmmpfiehniaa
open Go.RowKit

structure PB (w : World) (p b cap : Nat) (ad : Option Addr) (tcap k : Nat) (r1 r2 rv : Int) (rs : List Int) (ss : List ByteArray) (a1 a2 a3 : Nat) (x2 x3 : Value) : Prop where
  wd : WordAt w p (wordRow b rs.length cap r1 r2 rv)
  rn : RunesAt w b rs
  st : StrsAt w ad ss
  c1 : w.cell? ⟨a1, 0, none⟩ = some (.slice ad k tcap)
  o2 : One w a2 x2
  o3 : One w a3 x3
section
variable {w w1 : World} {p b cap : Nat} {ad : Option Addr} {tcap k : Nat} {r1 r2 rv : Int} {rs : List Int} {ss : List ByteArray} {a1 a2 a3 : Nat} {x2 x3 : Value}
theorem pbBelow (hb : Below w.heap.size w w1) (h : PB w p b cap ad tcap k r1 r2 rv rs ss a1 a2 a3 x2 x3) : PB w1 p b cap ad tcap k r1 r2 rv rs ss a1 a2 a3 x2 x3 :=
  ⟨h.wd.below hb, h.rn.below hb, h.st.below hb, belowRow hb h.c1, h.o2.below hb, h.o3.below hb⟩
theorem PB.drew (h : PB w p b cap ad tcap k r1 r2 rv rs ss a1 a2 a3 x2 x3) : PB w.drew p b cap ad tcap k r1 r2 rv rs ss a1 a2 a3 x2 x3 := ⟨h.wd, h.rn, h.st, h.c1, h.o2.drew, h.o3.drew⟩
end

set_option maxHeartbeats 2000000 in
theorem sf_closure (s : ByteArray) (rs : List Int) (hrs : Runes s rs) (r1 r2 rv : Int) (hn : rs.length ≤ 2147483647) (a0 a1 a2 a3 : Nat) (ad : Option Addr) (tcap : Nat) (ss : List ByteArray) (hss : ss.length ≤ 2147483647) (hst : ∀ t ∈ ss, t.size ≤ 2147483647) (w : World)
    (hs : RowAt w a0 #[.string s, .int .i64 r1, .int .i64 r2, .int .i64 rv]) (ht : StrsAt w ad ss) (h1 : w.cell? ⟨a1, 0, none⟩ = some (.slice ad ss.length tcap)) (x2 x3 : Value) (o2 : One w a2 x2) (o3 : One w a3 x3) (n23 : a2 ≠ a3) (n12 : a1 ≠ a2) (n13 : a1 ≠ a3) :
    Calls Try.prog 46 #[.pointer (some ⟨a0, 0, none⟩), .pointer (some ⟨a1, 0, none⟩), .pointer (some ⟨a2, 0, none⟩), .pointer (some ⟨a3, 0, none⟩)] w fun e w' =>
      e = .returned (.tuple #[]) ∧ One w' a2 (.string (firstBegin rs ss)) ∧ One w' a3 (.string (firstEnd rs ss)) ∧ w.heap.size ≤ w'.heap.size ∧ (∀ k, k < w.heap.size → k ≠ a2 → k ≠ a3 → w'.heap[k]? = w.heap[k]?) ∧ w'.os = w.os ∧ w'.tape = w.tape ∧ w'.output = w.output := by
  have e0 : w.cell? ⟨a0, 0, none⟩ = some (.string s) := hs 0 _ rfl
  have e1 : w.cell? ⟨a0, 1, none⟩ = some (.int .i64 r1) := hs 1 _ rfl
  have e2 : w.cell? ⟨a0, 2, none⟩ = some (.int .i64 r2) := hs 2 _ rfl
  have e3 : w.cell? ⟨a0, 3, none⟩ = some (.int .i64 rv) := hs 3 _ rfl
  clear hs
  have l2 := o2.lt
  have l3 := o3.lt
  obtain ⟨t1, ht1⟩ : ∃ t, firstBegin rs ss = t := ⟨_, rfl⟩
  obtain ⟨t2, ht2⟩ : ∃ t, firstEnd rs ss = t := ⟨_, rfl⟩
  have FP := Lib.hid (fun p b cap w => first_prefix p b cap ad tcap r1 r2 rv rs ss hn hss hst w)
  have FS := Lib.hid (fun p b cap w => first_suffix p b cap ad tcap r1 r2 rv rs ss hn hss hst w)
  rw [ht1] at FP ⊢
  rw [ht2] at FS ⊢
  obtain ⟨k, hk⟩ : ∃ k, ss.length = k := ⟨_, rfl⟩
  rw [hk] at h1 FP FS
  have O := Lib.hid (And.intro ht (And.intro h1 (And.intro o2 o3)))
  clear ht h1 o2 o3 ht1 ht2 hss hk
  go_enter Try.func46, Try.ntmps46
  go_wp2_with fail
  refine (word_of s rs hrs r1 r2 rv w).mono ?_
  rintro x w1 ⟨p, b, cap, rfl, hw, hr, hcap, hmax, hpb, hp, hb, hb1⟩
  obtain ⟨ht, h1, o2, o3⟩ := O.out
  have B0 := (⟨hw, hr, ht.below hb1, belowRow hb1 h1, o2.below hb1, o3.below hb1⟩ : PB w1 p b cap ad tcap k r1 r2 rv rs ss a1 a2 a3 x2 x3).drew
  have HB := Lib.hid hb1
  have hsz := hb1.size
  clear e0 e1 e2 e3 hw hr hb1 ht h1 o2 o3 O
  go_wp2_with fail
  go_region_held3 (fun w' => w'.cell? ⟨a1, 0, none⟩ = some (.slice ad k tcap))
    (first | exact cell_other n13 (cell_other n12 B2.c1) | exact cell_other n12 (cell_other n13 B2.c1) | exact cell_other n12 B2.c1 | exact cell_other n13 B2.c1 | exact B2.c1 | exact BP.c1 | exact BS.c1 | exact B0.c1)
    (first
      | (go_at_call 47; refine (FP.out p b cap _ (by exact BS.wd) (by exact BS.rn) (by exact BS.st)).mono ?_; rintro x wM ⟨rfl, hbM⟩; have B2 := pbBelow hbM BS; have hBB := hbS.trans (hbM.mono hbS.size); have k2 := B2.o2.cell; have f2 := B2.o2.free; have k3 := B2.o3.cell; have f3 := B2.o3.free)
      | (go_at_call 47; refine (FP.out p b cap _ (by exact B0.wd) (by exact B0.rn) (by exact B0.st)).mono ?_; rintro x wP ⟨rfl, hbP⟩; have BP := pbBelow hbP B0)
      | (go_at_call 48; refine (FS.out p b cap _ (by exact BP.wd) (by exact BP.rn) (by exact BP.st)).mono ?_; rintro x wM ⟨rfl, hbM⟩; have B2 := pbBelow hbM BP; have hBB := hbP.trans (hbM.mono hbP.size); have k2 := B2.o2.cell; have f2 := B2.o2.free; have k3 := B2.o3.cell; have f3 := B2.o3.free)
      | (go_at_call 48; refine (FS.out p b cap _ (by exact B0.wd) (by exact B0.rn) (by exact B0.st)).mono ?_; rintro x wS ⟨rfl, hbS⟩; have BS := pbBelow hbS B0))
  have HB3 := (below_drewN HB.out 1).trans (hBB.mono hsz)
  have hsz3 := HB3.size
  go_end0
  refine ⟨rfl, (B2.o2.set _).other n23 _, (B2.o3.other (Ne.symm n23) _).set _, ?_, ?_, HB3.os, HB3.tape, HB3.output⟩
  · have hz : ((wM.setCell ⟨a2, 0, none⟩ (.string t1)).setCell ⟨a3, 0, none⟩ (.string t2)).heap.size = wM.heap.size := by simp [World.setCell]
    rw [hz]; exact hsz3
  · intro k hk q2 q3
    rw [Below.heap_setCell _ _ _ _ (by simpa using q3), Below.heap_setCell _ _ _ _ (by simpa using q2)]
    exact HB3.block k hk

theorem enter_sf (cap : Array Value) (w : World) : (callFunc 46 cap).run Try.prog w = .ok (.enter 46 cap) w := by kernel_rfl
def sfBlocks (s : ByteArray) (r1 r2 rv : Int) (v : Value) : List Obj := [.cells #[.string s, .int .i64 r1, .int .i64 r2, .int .i64 rv] 27, .cells #[v] 30, .cells #[.string ⟨#[]⟩] 9, .cells #[.string ⟨#[]⟩] 9]

set_option maxHeartbeats 2000000 in
theorem snow_first (s : ByteArray) (rs : List Int) (hrs : Runes s rs) (r1 r2 rv : Int) (hn : rs.length ≤ 2147483647) (ad : Option Addr) (tcap k : Nat) (ss : List ByteArray) (hk : ss.length = k) (hss : ss.length ≤ 2147483647) (hst : ∀ t ∈ ss, t.size ≤ 2147483647) (t1 t2 : ByteArray) (ht1 : firstBegin rs ss = t1) (ht2 : firstEnd rs ss = t2) (w : World) (ht : StrsAt w ad ss) :
    Calls Try.prog 24 #[snowV s r1 r2 rv, .slice ad k tcap] w fun e w' => e = .returned (.tuple #[.string t1, .string t2]) ∧ Below w.heap.size w w' := by
  have hmf : ∀ (fn : Fn) (first cap : Array Value) (w : World), (Instr.makeFunc fn first cap).run Try.prog w = .ok (.func fn first cap) w := fun _ _ _ _ => rfl
  have F := Lib.hid (fun a0 a1 a2 a3 w => sf_closure s rs hrs r1 r2 rv hn a0 a1 a2 a3 ad tcap ss hss hst w)
  rw [ht1, ht2, hk] at F
  have HT := Lib.hid ht
  clear ht ht1 ht2 hss hk
  unfold snowV
  go_enter Try.func24, Try.ntmps24
  go_wp2_with fail
  obtain ⟨v, hv⟩ : ∃ v, Value.slice ad k tcap = v := ⟨_, rfl⟩
  rw [hv] at F ⊢
  change Calls _ _ _ (allocs w (sfBlocks s r1 r2 rv v)) _
  have r0 : RowAt (allocs w (sfBlocks s r1 r2 rv v)) w.heap.size #[.string s, .int .i64 r1, .int .i64 r2, .int .i64 rv] := allocs_row (i := 0) rfl rfl
  have o1 : One (allocs w (sfBlocks s r1 r2 rv v)) (w.heap.size + 1) v := allocs_one (i := 1) rfl rfl
  have o2 : One (allocs w (sfBlocks s r1 r2 rv v)) (w.heap.size + 2) (.string ⟨#[]⟩) := allocs_one (i := 2) rfl rfl
  have o3 : One (allocs w (sfBlocks s r1 r2 rv v)) (w.heap.size + 3) (.string ⟨#[]⟩) := allocs_one (i := 3) rfl rfl
  have hb8 : Below w.heap.size w (allocs w (sfBlocks s r1 r2 rv v)) := allocs_below _ w _ (Nat.le_refl _)
  have hz : (allocs w (sfBlocks s r1 r2 rv v)).heap.size = w.heap.size + 4 := allocs_size _ _
  have HT8 := Lib.hid (HT.out.below hb8)
  generalize allocs w (sfBlocks s r1 r2 rv v) = W at *
  refine (safe_any 46 _ W (fun wx => One wx (w.heap.size + 2) (.string t1) ∧ One wx (w.heap.size + 3) (.string t2) ∧ Below w.heap.size w wx ∧ W.heap.size < wx.heap.size) (fun w => enter_sf _ w) ?_).mono ?_
  · have hb5 : Below W.heap.size W (W.alloc (.cells #[.bool false] 4)) := (Below.refl _ _).alloc (Nat.le_refl _) _
    have hz' : (W.alloc (.cells #[.bool false] 4)).heap.size = w.heap.size + 5 := by simp; omega
    have hok : (W.alloc (.cells #[.bool false] 4)).heap[W.heap.size]? = some (.cells #[.bool false] 4) := heap_alloc_new _ _
    have hb9 := hb8.alloc (by omega) (.cells #[.bool false] 4)
    refine (F.out w.heap.size (w.heap.size + 1) (w.heap.size + 2) (w.heap.size + 3) _ (r0.below hb5) (HT8.out.below hb5) (o1.below hb5).cell _ _ (o2.below hb5) (o3.below hb5) (by omega) (by omega) (by omega)).mono ?_
    rintro e wx ⟨rfl, p1, p2, hs, hh, ho⟩
    refine ⟨rfl, ⟨p1, p2, ⟨ho.1.trans hb9.os, ho.2.1.trans hb9.tape, ho.2.2.trans hb9.output, by omega, fun k hk => by rw [hh k (by omega) (by omega) (by omega)]; exact hb9.block k hk⟩, by omega⟩, ?_⟩
    rw [hh W.heap.size (by omega) (by omega) (by omega)]; exact hok
  · rintro e w' ⟨rfl, wx, ⟨p1, p2, hbx, hlt⟩, hh, rfl⟩
    have s1 := (p1.other (c := W.heap.size) (j := 0) (by omega) (.bool true)).other (c := W.heap.size) (j := 0) (by omega) (.bool true)
    have s2 := (p2.other (c := W.heap.size) (j := 0) (by omega) (.bool true)).other (c := W.heap.size) (j := 0) (by omega) (.bool true)
    have hb7 := (hbx.setCell (p := ⟨W.heap.size, 0, none⟩) (by simp; omega) (.bool true)).setCell (p := ⟨W.heap.size, 0, none⟩) (by simp; omega) (.bool true)
    generalize (wx.setCell ⟨W.heap.size, 0, none⟩ (.bool true)).setCell ⟨W.heap.size, 0, none⟩ (.bool true) = W5 at *
    obtain ⟨A2, hA2⟩ : ∃ a, w.heap.size + 1 + 1 = a := ⟨_, rfl⟩
    obtain ⟨A3, hA3⟩ : ∃ a, w.heap.size + 1 + 1 + 1 = a := ⟨_, rfl⟩
    have s1' : One W5 A2 (.string t1) := hA2 ▸ s1
    have s2' : One W5 A3 (.string t2) := hA3 ▸ s2
    rw [hA3, hA2]
    have c2 := s1'.cell
    have c3 := s2'.cell
    have f2 := s1'.free
    have f3 := s2'.free
    have HB := Lib.hid hb7
    clear s1 s2 s1' s2' p1 p2 hbx hlt hh hb7 hb8 hz r0 o1 o2 o3 hmf F hrs hn HT HT8
    go_wp2_with fail
    have e2 : W5.drew.setCell ⟨A2, 0, none⟩ (.string t1) = W5.drew := setCell_id c2
    have e3 : W5.drew.setCell ⟨A3, 0, none⟩ (.string t2) = W5.drew := setCell_id c3
    go_region_held3 (fun w' => w'.cell? ⟨A2, 0, none⟩ = some (.string t1) ∧ w'.cell? ⟨A3, 0, none⟩ = some (.string t2)) (first | (simp only [e2, e3]; exact ⟨c2, c3⟩) | exact ⟨c2, c3⟩) (first | fail)
    all_goals
      have g2 : W5.drew.cell? ⟨A2, 0, none⟩ = some (.string t1) := c2
      have g3 : W5.drew.cell? ⟨A3, 0, none⟩ = some (.string t2) := c3
      have HB6 : Below w.heap.size w W5.drew := below_drewN HB.out 1
      have HB7 := Lib.hid HB6
      clear HB6 HB e2 e3 c2 c3 f2 f3 hA2 hA3
      generalize W5.drew = W6 at *
      go_wp2
      exact bodyPost_ret (v := .tuple #[.string t1, .string t2]) (by simp [results, Try.results24, go_sem, g2, g3]) rfl ⟨rfl, HB7.out⟩
end Go.Proofs.Ytaohmmpfiehniaa
