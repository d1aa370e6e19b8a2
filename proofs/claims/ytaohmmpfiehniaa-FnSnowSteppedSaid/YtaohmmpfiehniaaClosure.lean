/- The contracts of the closure of impl.SnowStepped: one for each kind of step (printed by gen_st.py). -/
import Derived.Test.YtaohmmpfiehniaaSuffix
import Derived.Deep.DeepCutAuto
import Derived.Deep.Cut
import Derived.Deep.CutBlock
set_option linter.unusedVariables false
set_option linter.unusedSimpArgs false
namespace Go.Proofs.Ytaohmmpfiehniaa
open Go Go.RowKit

/-- Nothing that was there has changed but two blocks. -/
structure Chg (w w' : World) (a2 a3 : Nat) : Prop where
  size : w.heap.size ≤ w'.heap.size
  heap : ∀ k, k < w.heap.size → k ≠ a2 → k ≠ a3 → w'.heap[k]? = w.heap[k]?
  os : w'.os = w.os
  tape : w'.tape = w.tape
  output : w'.output = w.output
theorem Chg.of {w w' : World} {a2 a3 : Nat} (h : Below w.heap.size w w') : Chg w w' a2 a3 := ⟨h.size, fun k hk _ _ => h.block k hk, h.os, h.tape, h.output⟩
theorem Chg.set2 {w w' : World} {a2 a3 : Nat} (h : Chg w w' a2 a3) (j : Nat) (y : Value) : Chg w (w'.setCell ⟨a2, j, none⟩ y) a2 a3 :=
  ⟨by have e : (w'.setCell ⟨a2, j, none⟩ y).heap.size = w'.heap.size := by simp [World.setCell]
      rw [e]; exact h.size, fun k hk h2 h3 => by rw [Below.heap_setCell _ _ _ _ (by simpa using h2)]; exact h.heap k hk h2 h3, h.os, h.tape, h.output⟩
theorem Chg.set3 {w w' : World} {a2 a3 : Nat} (h : Chg w w' a2 a3) (j : Nat) (y : Value) : Chg w (w'.setCell ⟨a3, j, none⟩ y) a2 a3 :=
  ⟨by have e : (w'.setCell ⟨a3, j, none⟩ y).heap.size = w'.heap.size := by simp [World.setCell]
      rw [e]; exact h.size, fun k hk h2 h3 => by rw [Below.heap_setCell _ _ _ _ (by simpa using h3)]; exact h.heap k hk h2 h3, h.os, h.tape, h.output⟩
theorem WS.other {w : World} {p B : Nat} {rs : List Int} {r1 r2 rv : Int} (h : WS w p B rs r1 r2 rv) {c j : Nat} (hc : c < B) (y : Value) : WS (w.setCell ⟨c, j, none⟩ y) p B rs r1 r2 rv := by
  obtain ⟨⟨b, cap, h1, h2, h3, h4⟩, h5⟩ := h
  exact ⟨⟨b, cap, h1.other (by omega) y, h2.other (by omega) y, h3, h4⟩, h5⟩
theorem remove_ws (p B m : Nat) (rs : List Int) (hm : m ≤ rs.length) (r1 r2 rv : Int) (w : World) (h : WS w p B rs r1 r2 rv) :
    Calls Try.prog 32 #[.pointer (some ⟨p, 0, none⟩), .int .i64 m] w fun x w' => x = .returned (.tuple #[]) ∧ WS w' p B (rs.take (rs.length - m)) (lim r1 (rs.length - m : Nat)) (lim r2 (rs.length - m : Nat)) (lim rv (rs.length - m : Nat)) ∧ (B ≤ w.heap.size → Below B w w') := by
  obtain ⟨⟨b, cap, hw, hr, hpb, hBb⟩, hBp⟩ := h
  refine (remove_n p b rs.length cap m hm hr.le hr.max r1 r2 rv w hw).mono ?_
  rintro x w' ⟨rfl, h, ht⟩
  have e : (rs.take (rs.length - m)).length = rs.length - m := by rw [List.length_take]; omega
  exact ⟨rfl, ⟨⟨b, cap, by rw [e]; exact h, (hr.touch ht (Ne.symm hpb)).take _, hpb, hBb⟩, hBp⟩, fun hB => ht.below hBp hB⟩

/-- What a conversion to code points leaves behind. -/
def convCap (w : World) (rs : List Int) : Nat := grownCap w rs.length 0 21
def convW (w : World) (rs : List Int) : World := w.drew.alloc (.cells ((rs.map (Value.int .i32)).toArray ++ Array.replicate (grownCap w rs.length 0 21 - rs.length) (.int .i32 0)) 21)
theorem conv_eq (s : ByteArray) (rs : List Int) (h : Runes s rs) (w : World) :
    (convert 9 24 (.string s)).run Try.prog w = .ok (.slice (some ⟨w.heap.size, 0, none⟩) rs.length (convCap w rs)) (convW w rs) := by
  have hsz : (Conv.runesFrom s s.size 0 #[]).size = rs.length := by rw [h.1]; simp
  have hk := run_runes_of_string (P := Try.prog) w 9 24 21 s Try.underlying9 Try.underlying24 Try.underlying21 (by rw [hsz]; exact h.2)
  rw [hsz, h.1] at hk
  exact hk
theorem conv_below (rs : List Int) (w : World) : Below w.heap.size w (convW w rs) := (below_drewN (Below.refl _ _) 1).alloc (Nat.le_refl _) _
theorem conv_runesOwn (rs : List Int) (h : rs.length ≤ 70368744177664) (w : World) : RunesOwn (convW w rs) w.heap.size (convCap w rs) rs := by
  have hle := grownCap_ge w rs.length 0 21
  refine ⟨⟨_, heap_alloc_new w.drew _, ?_, ?_⟩, hle, grownCap_le_maxLen _ _ _ _ (by simp [maxLen]; omega)⟩
  · simp [convCap]; omega
  · simp [List.take_left']


set_option maxRecDepth 20000 in
set_option maxHeartbeats 8000000 in
theorem st_0 (s : ByteArray) (rs : List Int) (hrs : Runes s rs) (r1 r2 rv : Int) (a0 a1 a2 a3 a4 : Nat) (N st : Int) (ad : Option Addr) (k tcap : Nat) (u : ByteArray) (f : Bool) (rs' : List Int) (q1 q2 q3 : Int) (told : Bool) (txt : ByteArray) (htold : told = false) (htxt : txt = ⟨#[]⟩) (tq : ByteArray) (htq : runesBytes rs' = tq) (w : World)
    (F : ∀ w1 p, WS w1 p w.heap.size rs r1 r2 rv → w.heap.size ≤ w1.heap.size → Calls Try.prog 32 #[.pointer (some ⟨p, 0, none⟩), .int .i64 N] w1 fun x w2 => x = .returned (.tuple #[]) ∧ WS w2 p w.heap.size rs' q1 q2 q3 ∧ Below w.heap.size w1 w2)
    (hs : RowAt w a0 #[.string s, .int .i64 r1, .int .i64 r2, .int .i64 rv]) (hx : RowAt w a1 #[.int .i64 0, .int .i64 N, .int .i64 st, .slice ad k tcap, .string u, .bool f]) (o2 : One w a2 (.bool false)) (o3 : One w a3 (.string ⟨#[]⟩)) (z0 z1 z2 z3 : Value) (o4 : BoxAt w a4 #[z0, z1, z2, z3])
    (n23 : a2 ≠ a3) (n24 : a2 ≠ a4) (n34 : a3 ≠ a4) (n12 : a1 ≠ a2) (n13 : a1 ≠ a3) :
    Calls Try.prog 30 #[.pointer (some ⟨a0, 0, none⟩), .pointer (some ⟨a1, 0, none⟩), .pointer (some ⟨a2, 0, none⟩), .pointer (some ⟨a3, 0, none⟩), .pointer (some ⟨a4, 0, none⟩)] w fun x w' => x = .returned (.tuple #[]) ∧ One w' a2 (.bool told) ∧ One w' a3 (.string txt) ∧ BoxAt w' a4 #[.string tq, .int .i64 q1, .int .i64 q2, .int .i64 q3] ∧
      w.heap.size ≤ w'.heap.size ∧ (∀ k, k < w.heap.size → k ≠ a2 → k ≠ a3 → k ≠ a4 → w'.heap[k]? = w.heap[k]?) ∧ w'.os = w.os ∧ w'.tape = w.tape ∧ w'.output = w.output := by
    have e0 : w.cell? ⟨a0, 0, none⟩ = some (.string s) := hs 0 _ rfl
    have e1 : w.cell? ⟨a0, 1, none⟩ = some (.int .i64 r1) := hs 1 _ rfl
    have e2 : w.cell? ⟨a0, 2, none⟩ = some (.int .i64 r2) := hs 2 _ rfl
    have e3 : w.cell? ⟨a0, 3, none⟩ = some (.int .i64 rv) := hs 3 _ rfl
    clear hs
    have l2 := o2.lt
    have l3 := o3.lt
    have l4 : a4 < w.heap.size := (Array.getElem?_eq_some_iff.1 (show w.heap[a4]? = _ from o4)).1
    have O2 := Lib.hid o2
    have O3 := Lib.hid o3
    have O4 := Lib.hid o4
    have HX := Lib.hid hx
    have HF := Lib.hid F
    clear o2 o3 o4 hx F
    subst htold htxt
    go_enter Try.func30, Try.ntmps30
    go_wp2_with fail
    refine (word_own s rs hrs r1 r2 rv w).mono ?_
    rintro x w1 ⟨p, b, cap, rfl, hw, hr, hpb, hp, hb, hb1⟩
    have hsz1 := hb1.size
    have H1 := Lib.hid (show WS w1 p w.heap.size rs r1 r2 rv from ⟨⟨b, cap, hw, hr, hpb, hb⟩, hp⟩)
    have hx1 := HX.out.below hb1
    have HB1 := Lib.hid hb1
    have c10 : w1.cell? ⟨a1, 0, none⟩ = some (.int .i64 0) := hx1 0 _ rfl
    have c11 : w1.cell? ⟨a1, 1, none⟩ = some (.int .i64 N) := hx1 1 _ rfl
    clear e0 e1 e2 e3 hw hr hb1 hx1 hrs
    go_wp2_with fail
    refine (HF.out w1 p H1.out hsz1).mono ?_
    rintro x w2 ⟨rfl, h2, hb2⟩
    have hbb := HB1.out.trans hb2
    have HWS := Lib.hid h2
    have HO2 := Lib.hid (O2.out.below hbb)
    have HO3 := Lib.hid (O3.out.below hbb)
    have HO4 := Lib.hid (O4.out.below hbb)
    have HCH := Lib.hid (Chg.of (a2 := a2) (a3 := a3) hbb)
    clear h2 hb2 hbb c10 c11
    obtain ⟨⟨b', cap', hw', hr', _, _⟩, _⟩ := HWS.out
    have G := Lib.hid (snow_of p b' cap' rs' q1 q2 q3 w2 hw' hr'.at)
    rw [htq] at G
    clear hw' hr'
    go_wp2_with fail
    refine G.out.mono ?_
    rintro x w4 ⟨rfl, hb4⟩
    have hsz4 := hb4.size
    have t2 := Lib.hid (HO2.out.below hb4)
    have t3 := Lib.hid (HO3.out.below hb4)
    have t4 := HO4.out.below hb4
    have T4 := Lib.hid (t4.set4 (.string tq) (.int .i64 q1) (.int .i64 q2) (.int .i64 q3))
    have k0 : w4.cell? ⟨a4, 0, none⟩ = some z0 := t4.row 0 _ rfl
    have k1 : w4.cell? ⟨a4, 1, none⟩ = some z1 := t4.row 1 _ rfl
    have k2 : w4.cell? ⟨a4, 2, none⟩ = some z2 := t4.row 2 _ rfl
    have k3 : w4.cell? ⟨a4, 3, none⟩ = some z3 := t4.row 3 _ rfl
    have fz : ∀ i, w4.frozen? ⟨a4, i, none⟩ = false := t4.free
    have HB4 := Lib.hid hb4
    clear t4 hb4 G
    unfold snowV
    go_wp2
    go_end0
    change _ ∧ One (set4 w4 a4 (.string tq) (.int .i64 q1) (.int .i64 q2) (.int .i64 q3)) _ _ ∧ One (set4 w4 a4 (.string tq) (.int .i64 q1) (.int .i64 q2) (.int .i64 q3)) _ _ ∧ BoxAt (set4 w4 a4 (.string tq) (.int .i64 q1) (.int .i64 q2) (.int .i64 q3)) _ _ ∧ _
    have hs5 : (set4 w4 a4 (.string tq) (.int .i64 q1) (.int .i64 q2) (.int .i64 q3)).heap.size = w4.heap.size := by simp [Go.Proofs.Ytaohmmpfiehniaa.set4, World.setCell]
    have C := HCH.out
    have cs := C.size
    refine ⟨rfl, (((t2.out.other n24 _).other n24 _).other n24 _).other n24 _, (((t3.out.other n34 _).other n34 _).other n34 _).other n34 _, T4.out, ?_, ?_, ?_⟩
    · show _ ≤ (set4 w4 a4 (.string tq) (.int .i64 q1) (.int .i64 q2) (.int .i64 q3)).heap.size
      rw [hs5]; omega
    · intro k hk h2 h3 h4
      show (set4 w4 a4 (.string tq) (.int .i64 q1) (.int .i64 q2) (.int .i64 q3)).heap[k]? = _
      rw [set4_heap _ _ _ _ _ _ _ h4, HB4.out.block k (by omega), C.heap k hk h2 h3]
    · exact ⟨HB4.out.os.trans C.os, HB4.out.tape.trans C.tape, HB4.out.output.trans C.output⟩


set_option maxRecDepth 20000 in
set_option maxHeartbeats 8000000 in
theorem st_1 (s : ByteArray) (rs : List Int) (hrs : Runes s rs) (r1 r2 rv : Int) (a0 a1 a2 a3 a4 : Nat) (N st : Int) (ad : Option Addr) (k tcap : Nat) (u : ByteArray) (f : Bool) (rs' : List Int) (q1 q2 q3 : Int) (told : Bool) (txt : ByteArray) (htxt : txt = ⟨#[]⟩) (tq : ByteArray) (htq : runesBytes rs' = tq) (w : World) (t : ByteArray) (bt ot : Nat) (had : ad = some ⟨bt, ot, none⟩) (hk0 : 0 < k) (ht : w.cell? ⟨bt, ot, none⟩ = some (.string t)) (nb2 : bt ≠ a2)
    (F : ∀ w1 p, WS w1 p w.heap.size rs r1 r2 rv → w.heap.size ≤ w1.heap.size → Calls Try.prog 33 #[.pointer (some ⟨p, 0, none⟩), .string t, .string u, .bool f] w1 fun x w2 => x = .returned (.bool told) ∧ WS w2 p w.heap.size rs' q1 q2 q3 ∧ Below w.heap.size w1 w2)
    (hs : RowAt w a0 #[.string s, .int .i64 r1, .int .i64 r2, .int .i64 rv]) (hx : RowAt w a1 #[.int .i64 1, .int .i64 N, .int .i64 st, .slice ad k tcap, .string u, .bool f]) (o2 : One w a2 (.bool false)) (o3 : One w a3 (.string ⟨#[]⟩)) (z0 z1 z2 z3 : Value) (o4 : BoxAt w a4 #[z0, z1, z2, z3])
    (n23 : a2 ≠ a3) (n24 : a2 ≠ a4) (n34 : a3 ≠ a4) (n12 : a1 ≠ a2) (n13 : a1 ≠ a3) :
    Calls Try.prog 30 #[.pointer (some ⟨a0, 0, none⟩), .pointer (some ⟨a1, 0, none⟩), .pointer (some ⟨a2, 0, none⟩), .pointer (some ⟨a3, 0, none⟩), .pointer (some ⟨a4, 0, none⟩)] w fun x w' => x = .returned (.tuple #[]) ∧ One w' a2 (.bool told) ∧ One w' a3 (.string txt) ∧ BoxAt w' a4 #[.string tq, .int .i64 q1, .int .i64 q2, .int .i64 q3] ∧
      w.heap.size ≤ w'.heap.size ∧ (∀ k, k < w.heap.size → k ≠ a2 → k ≠ a3 → k ≠ a4 → w'.heap[k]? = w.heap[k]?) ∧ w'.os = w.os ∧ w'.tape = w.tape ∧ w'.output = w.output := by
    have e0 : w.cell? ⟨a0, 0, none⟩ = some (.string s) := hs 0 _ rfl
    have e1 : w.cell? ⟨a0, 1, none⟩ = some (.int .i64 r1) := hs 1 _ rfl
    have e2 : w.cell? ⟨a0, 2, none⟩ = some (.int .i64 r2) := hs 2 _ rfl
    have e3 : w.cell? ⟨a0, 3, none⟩ = some (.int .i64 rv) := hs 3 _ rfl
    clear hs
    have l2 := o2.lt
    have l3 := o3.lt
    have l4 : a4 < w.heap.size := (Array.getElem?_eq_some_iff.1 (show w.heap[a4]? = _ from o4)).1
    have O2 := Lib.hid o2
    have O3 := Lib.hid o3
    have O4 := Lib.hid o4
    have HX := Lib.hid hx
    have HF := Lib.hid F
    clear o2 o3 o4 hx F
    subst htxt had
    have HTT := Lib.hid ht
    clear ht
    go_enter Try.func30, Try.ntmps30
    go_wp2_with fail
    refine (word_own s rs hrs r1 r2 rv w).mono ?_
    rintro x w1 ⟨p, b, cap, rfl, hw, hr, hpb, hp, hb, hb1⟩
    have hsz1 := hb1.size
    have H1 := Lib.hid (show WS w1 p w.heap.size rs r1 r2 rv from ⟨⟨b, cap, hw, hr, hpb, hb⟩, hp⟩)
    have hx1 := HX.out.below hb1
    have HB1 := Lib.hid hb1
    have c10 : w1.cell? ⟨a1, 0, none⟩ = some (.int .i64 1) := hx1 0 _ rfl
    have c13 : w1.cell? ⟨a1, 3, none⟩ = some (.slice (some ⟨bt, ot, none⟩) k tcap) := hx1 3 _ rfl
    have c14 : w1.cell? ⟨a1, 4, none⟩ = some (.string u) := hx1 4 _ rfl
    have c15 : w1.cell? ⟨a1, 5, none⟩ = some (.bool f) := hx1 5 _ rfl
    have ct1 : w1.cell? ⟨bt, ot, none⟩ = some (.string t) := belowRow hb1 HTT.out
    clear e0 e1 e2 e3 hw hr hb1 hx1 hrs
    go_upto_region 5 with fail
    have C0 : w1.drew.cell? ⟨a1, 3, none⟩ = some (.slice (some ⟨bt, ot, none⟩) k tcap) ∧ w1.drew.cell? ⟨a1, 4, none⟩ = some (.string u) ∧ w1.drew.cell? ⟨a1, 5, none⟩ = some (.bool f) ∧ w1.drew.cell? ⟨bt, ot, none⟩ = some (.string t) := ⟨c13, c14, c15, ct1⟩
    have HC := Lib.hid C0
    clear c13 c14 c15 ct1 c10 C0
    have H1' := Lib.hid (H1.out.drewN 1)
    have HB1' := Lib.hid (below_drewN HB1.out 1)
    go_region_held3 (fun w' => w'.cell? ⟨a1, 3, none⟩ = some (.slice (some ⟨bt, ot, none⟩) k tcap) ∧ w'.cell? ⟨a1, 4, none⟩ = some (.string u) ∧ w'.cell? ⟨a1, 5, none⟩ = some (.bool f) ∧ w'.cell? ⟨bt, ot, none⟩ = some (.string t))
      (first | exact ⟨cell_other n12 C2.1, cell_other n12 C2.2.1, cell_other n12 C2.2.2.1, cell_other nb2 C2.2.2.2⟩ | exact C2 | exact HC.out)
      (first
        | (go_at_call 33; refine (HF.out _ p (by exact H1'.out) (by exact hsz1)).mono ?_; rintro x w2 ⟨rfl, h2, hb2⟩; have hbb := HB1'.out.trans hb2; have C2 := (show w2.cell? ⟨a1, 3, none⟩ = some (.slice (some ⟨bt, ot, none⟩) k tcap) ∧ w2.cell? ⟨a1, 4, none⟩ = some (.string u) ∧ w2.cell? ⟨a1, 5, none⟩ = some (.bool f) ∧ w2.cell? ⟨bt, ot, none⟩ = some (.string t) from And.intro (belowRow (w := w) (w1 := w2) hbb (HX.out 3 _ rfl)) (And.intro (belowRow hbb (HX.out 4 _ rfl)) (And.intro (belowRow hbb (HX.out 5 _ rfl)) (belowRow hbb HTT.out)))); have j2 := O2.out.below hbb; have k2' := j2.cell; have f2' := j2.free))

    all_goals
      have HWS := Lib.hid (h2.other (c := a2) (j := 0) l2 (.bool told))
      have HO2 := Lib.hid (j2.set (.bool told))
      have HO3 := Lib.hid ((O3.out.below hbb).other (c := a2) (j := 0) (Ne.symm n23) (.bool told))
      have HO4 := Lib.hid ((O4.out.below hbb).other (c := a2) (j := 0) (Ne.symm n24) (.bool told))
      have HCH := Lib.hid ((Chg.of (a2 := a2) (a3 := a3) hbb).set2 0 (.bool told))
      clear h2 hb2 hbb j2 C2
      obtain ⟨⟨b', cap', hw', hr', _, _⟩, _⟩ := HWS.out
      have G := Lib.hid (snow_of p b' cap' rs' q1 q2 q3 (w2.setCell ⟨a2, 0, none⟩ (.bool told)) hw' hr'.at)
      rw [htq] at G
      clear hw' hr'
      go_wp2_with fail
      refine G.out.mono ?_
      rintro x w4 ⟨rfl, hb4⟩
      have hsz4 := hb4.size
      have t2 := Lib.hid (HO2.out.below hb4)
      have t3 := Lib.hid (HO3.out.below hb4)
      have t4 := HO4.out.below hb4
      have T4 := Lib.hid (t4.set4 (.string tq) (.int .i64 q1) (.int .i64 q2) (.int .i64 q3))
      have k0 : w4.cell? ⟨a4, 0, none⟩ = some z0 := t4.row 0 _ rfl
      have k1 : w4.cell? ⟨a4, 1, none⟩ = some z1 := t4.row 1 _ rfl
      have k2 : w4.cell? ⟨a4, 2, none⟩ = some z2 := t4.row 2 _ rfl
      have k3 : w4.cell? ⟨a4, 3, none⟩ = some z3 := t4.row 3 _ rfl
      have fz : ∀ i, w4.frozen? ⟨a4, i, none⟩ = false := t4.free
      have HB4 := Lib.hid hb4
      clear t4 hb4 G
      unfold snowV
      go_wp2
      go_end0
      change _ ∧ One (set4 w4 a4 (.string tq) (.int .i64 q1) (.int .i64 q2) (.int .i64 q3)) _ _ ∧ One (set4 w4 a4 (.string tq) (.int .i64 q1) (.int .i64 q2) (.int .i64 q3)) _ _ ∧ BoxAt (set4 w4 a4 (.string tq) (.int .i64 q1) (.int .i64 q2) (.int .i64 q3)) _ _ ∧ _
      have hs5 : (set4 w4 a4 (.string tq) (.int .i64 q1) (.int .i64 q2) (.int .i64 q3)).heap.size = w4.heap.size := by simp [Go.Proofs.Ytaohmmpfiehniaa.set4, World.setCell]
      have C := HCH.out
      have cs := C.size
      refine ⟨rfl, (((t2.out.other n24 _).other n24 _).other n24 _).other n24 _, (((t3.out.other n34 _).other n34 _).other n34 _).other n34 _, T4.out, ?_, ?_, ?_⟩
      · show _ ≤ (set4 w4 a4 (.string tq) (.int .i64 q1) (.int .i64 q2) (.int .i64 q3)).heap.size
        rw [hs5]; omega
      · intro k hk h2 h3 h4
        show (set4 w4 a4 (.string tq) (.int .i64 q1) (.int .i64 q2) (.int .i64 q3)).heap[k]? = _
        rw [set4_heap _ _ _ _ _ _ _ h4, HB4.out.block k (by omega), C.heap k hk h2 h3]
      · exact ⟨HB4.out.os.trans C.os, HB4.out.tape.trans C.tape, HB4.out.output.trans C.output⟩


set_option maxRecDepth 20000 in
set_option maxHeartbeats 8000000 in
theorem st_2 (s : ByteArray) (rs : List Int) (hrs : Runes s rs) (r1 r2 rv : Int) (a0 a1 a2 a3 a4 : Nat) (N st : Int) (ad : Option Addr) (k tcap : Nat) (u : ByteArray) (f : Bool) (rs' : List Int) (q1 q2 q3 : Int) (told : Bool) (txt : ByteArray) (htxt : txt = ⟨#[]⟩) (tq : ByteArray) (htq : runesBytes rs' = tq) (w : World) (t : ByteArray) (ct cu : List Int) (hct : Runes t ct) (hcu : Runes u cu) (bt ot : Nat) (had : ad = some ⟨bt, ot, none⟩) (hk0 : 0 < k) (ht : w.cell? ⟨bt, ot, none⟩ = some (.string t)) (nb2 : bt ≠ a2)
    (F : ∀ w1 p c ccap d dcap, WS w1 p w.heap.size rs r1 r2 rv → RunesAt w1 c ct → RunesAt w1 d cu → w.heap.size ≤ w1.heap.size → Calls Try.prog 34 #[.pointer (some ⟨p, 0, none⟩), .slice (some ⟨c, 0, none⟩) ct.length ccap, .slice (some ⟨d, 0, none⟩) cu.length dcap, .bool f] w1 fun x w2 => x = .returned (.bool told) ∧ WS w2 p w.heap.size rs' q1 q2 q3 ∧ Below w.heap.size w1 w2)
    (hs : RowAt w a0 #[.string s, .int .i64 r1, .int .i64 r2, .int .i64 rv]) (hx : RowAt w a1 #[.int .i64 2, .int .i64 N, .int .i64 st, .slice ad k tcap, .string u, .bool f]) (o2 : One w a2 (.bool false)) (o3 : One w a3 (.string ⟨#[]⟩)) (z0 z1 z2 z3 : Value) (o4 : BoxAt w a4 #[z0, z1, z2, z3])
    (n23 : a2 ≠ a3) (n24 : a2 ≠ a4) (n34 : a3 ≠ a4) (n12 : a1 ≠ a2) (n13 : a1 ≠ a3) :
    Calls Try.prog 30 #[.pointer (some ⟨a0, 0, none⟩), .pointer (some ⟨a1, 0, none⟩), .pointer (some ⟨a2, 0, none⟩), .pointer (some ⟨a3, 0, none⟩), .pointer (some ⟨a4, 0, none⟩)] w fun x w' => x = .returned (.tuple #[]) ∧ One w' a2 (.bool told) ∧ One w' a3 (.string txt) ∧ BoxAt w' a4 #[.string tq, .int .i64 q1, .int .i64 q2, .int .i64 q3] ∧
      w.heap.size ≤ w'.heap.size ∧ (∀ k, k < w.heap.size → k ≠ a2 → k ≠ a3 → k ≠ a4 → w'.heap[k]? = w.heap[k]?) ∧ w'.os = w.os ∧ w'.tape = w.tape ∧ w'.output = w.output := by
    have e0 : w.cell? ⟨a0, 0, none⟩ = some (.string s) := hs 0 _ rfl
    have e1 : w.cell? ⟨a0, 1, none⟩ = some (.int .i64 r1) := hs 1 _ rfl
    have e2 : w.cell? ⟨a0, 2, none⟩ = some (.int .i64 r2) := hs 2 _ rfl
    have e3 : w.cell? ⟨a0, 3, none⟩ = some (.int .i64 rv) := hs 3 _ rfl
    clear hs
    have l2 := o2.lt
    have l3 := o3.lt
    have l4 : a4 < w.heap.size := (Array.getElem?_eq_some_iff.1 (show w.heap[a4]? = _ from o4)).1
    have O2 := Lib.hid o2
    have O3 := Lib.hid o3
    have O4 := Lib.hid o4
    have HX := Lib.hid hx
    have HF := Lib.hid F
    clear o2 o3 o4 hx F
    subst htxt had
    have HTT := Lib.hid ht
    clear ht
    go_enter Try.func30, Try.ntmps30
    go_wp2_with fail
    refine (word_own s rs hrs r1 r2 rv w).mono ?_
    rintro x w1 ⟨p, b, cap, rfl, hw, hr, hpb, hp, hb, hb1⟩
    have hsz1 := hb1.size
    have H1 := Lib.hid (show WS w1 p w.heap.size rs r1 r2 rv from ⟨⟨b, cap, hw, hr, hpb, hb⟩, hp⟩)
    have hx1 := HX.out.below hb1
    have HB1 := Lib.hid hb1
    have c10 : w1.cell? ⟨a1, 0, none⟩ = some (.int .i64 2) := hx1 0 _ rfl
    have c13 : w1.cell? ⟨a1, 3, none⟩ = some (.slice (some ⟨bt, ot, none⟩) k tcap) := hx1 3 _ rfl
    have c14 : w1.cell? ⟨a1, 4, none⟩ = some (.string u) := hx1 4 _ rfl
    have c15 : w1.cell? ⟨a1, 5, none⟩ = some (.bool f) := hx1 5 _ rfl
    have ct1 : w1.cell? ⟨bt, ot, none⟩ = some (.string t) := belowRow hb1 HTT.out
    clear e0 e1 e2 e3 hw hr hb1 hx1 hrs
    go_upto_region 7 with fail
    have C0 : w1.drew.cell? ⟨a1, 3, none⟩ = some (.slice (some ⟨bt, ot, none⟩) k tcap) ∧ w1.drew.cell? ⟨a1, 4, none⟩ = some (.string u) ∧ w1.drew.cell? ⟨a1, 5, none⟩ = some (.bool f) ∧ w1.drew.cell? ⟨bt, ot, none⟩ = some (.string t) := ⟨c13, c14, c15, ct1⟩
    have HC := Lib.hid C0
    clear c13 c14 c15 ct1 c10 C0
    have H1' := Lib.hid (H1.out.drewN 1)
    have HB1' := Lib.hid (below_drewN HB1.out 1)
    have V1 := conv_eq t ct hct
    have V2 := conv_eq u cu hcu
    have L1 := hct.2
    have L2 := hcu.2
    have D1 := Lib.hid (HB1'.out.trans ((conv_below ct w1.drew).mono hsz1))
    have D2 := Lib.hid (HB1'.out.trans ((conv_below cu w1.drew).mono hsz1))
    have D12 := Lib.hid (D1.out.trans ((conv_below cu (convW w1.drew ct)).mono D1.out.size))
    have D21 := Lib.hid (D2.out.trans ((conv_below ct (convW w1.drew cu)).mono D2.out.size))
    have K1 := Lib.hid (show (convW w1.drew ct).cell? ⟨a1, 3, none⟩ = some (.slice (some ⟨bt, ot, none⟩) k tcap) ∧ (convW w1.drew ct).cell? ⟨a1, 4, none⟩ = some (.string u) ∧ (convW w1.drew ct).cell? ⟨a1, 5, none⟩ = some (.bool f) ∧ (convW w1.drew ct).cell? ⟨bt, ot, none⟩ = some (.string t) from And.intro (belowRow D1.out (HX.out 3 _ rfl)) (And.intro (belowRow D1.out (HX.out 4 _ rfl)) (And.intro (belowRow D1.out (HX.out 5 _ rfl)) (belowRow D1.out HTT.out))))
    have K2 := Lib.hid (show (convW w1.drew cu).cell? ⟨a1, 3, none⟩ = some (.slice (some ⟨bt, ot, none⟩) k tcap) ∧ (convW w1.drew cu).cell? ⟨a1, 4, none⟩ = some (.string u) ∧ (convW w1.drew cu).cell? ⟨a1, 5, none⟩ = some (.bool f) ∧ (convW w1.drew cu).cell? ⟨bt, ot, none⟩ = some (.string t) from And.intro (belowRow D2.out (HX.out 3 _ rfl)) (And.intro (belowRow D2.out (HX.out 4 _ rfl)) (And.intro (belowRow D2.out (HX.out 5 _ rfl)) (belowRow D2.out HTT.out))))
    have K12 := Lib.hid (show (convW (convW w1.drew ct) cu).cell? ⟨a1, 3, none⟩ = some (.slice (some ⟨bt, ot, none⟩) k tcap) ∧ (convW (convW w1.drew ct) cu).cell? ⟨a1, 4, none⟩ = some (.string u) ∧ (convW (convW w1.drew ct) cu).cell? ⟨a1, 5, none⟩ = some (.bool f) ∧ (convW (convW w1.drew ct) cu).cell? ⟨bt, ot, none⟩ = some (.string t) from And.intro (belowRow D12.out (HX.out 3 _ rfl)) (And.intro (belowRow D12.out (HX.out 4 _ rfl)) (And.intro (belowRow D12.out (HX.out 5 _ rfl)) (belowRow D12.out HTT.out))))
    have K21 := Lib.hid (show (convW (convW w1.drew cu) ct).cell? ⟨a1, 3, none⟩ = some (.slice (some ⟨bt, ot, none⟩) k tcap) ∧ (convW (convW w1.drew cu) ct).cell? ⟨a1, 4, none⟩ = some (.string u) ∧ (convW (convW w1.drew cu) ct).cell? ⟨a1, 5, none⟩ = some (.bool f) ∧ (convW (convW w1.drew cu) ct).cell? ⟨bt, ot, none⟩ = some (.string t) from And.intro (belowRow D21.out (HX.out 3 _ rfl)) (And.intro (belowRow D21.out (HX.out 4 _ rfl)) (And.intro (belowRow D21.out (HX.out 5 _ rfl)) (belowRow D21.out HTT.out))))
    have hq1 : w1.drew.heap.size = w1.heap.size := rfl
    have W12 := Lib.hid (show WS (convW (convW w1.drew ct) cu) p w.heap.size rs r1 r2 rv ∧ RunesAt (convW (convW w1.drew ct) cu) w1.heap.size ct ∧ RunesAt (convW (convW w1.drew ct) cu) (convW w1.drew ct).heap.size cu from And.intro ((H1'.out.below (conv_below ct w1.drew)).below (conv_below cu (convW w1.drew ct))) (And.intro ((conv_runesOwn ct L1 w1.drew).below (conv_below cu (convW w1.drew ct))).at (conv_runesOwn cu L2 (convW w1.drew ct)).at))
    have W21 := Lib.hid (show WS (convW (convW w1.drew cu) ct) p w.heap.size rs r1 r2 rv ∧ RunesAt (convW (convW w1.drew cu) ct) w1.heap.size cu ∧ RunesAt (convW (convW w1.drew cu) ct) (convW w1.drew cu).heap.size ct from And.intro ((H1'.out.below (conv_below cu w1.drew)).below (conv_below ct (convW w1.drew cu))) (And.intro ((conv_runesOwn cu L2 w1.drew).below (conv_below ct (convW w1.drew cu))).at (conv_runesOwn ct L1 (convW w1.drew cu)).at))
    have Z12 := Lib.hid (HF.out (convW (convW w1.drew ct) cu) p w1.heap.size (convCap w1.drew ct) (convW w1.drew ct).heap.size (convCap (convW w1.drew ct) cu) W12.out.1 W12.out.2.1 W12.out.2.2 D12.out.size)
    have Z21 := Lib.hid (HF.out (convW (convW w1.drew cu) ct) p (convW w1.drew cu).heap.size (convCap (convW w1.drew cu) ct) w1.heap.size (convCap w1.drew cu) W21.out.1 W21.out.2.2 W21.out.2.1 D21.out.size)
    refine wp_region_noPanic ?_
    refine wp_region_held_drew (S := (fun w' => w'.cell? ⟨a1, 3, none⟩ = some (.slice (some ⟨bt, ot, none⟩) k tcap) ∧ w'.cell? ⟨a1, 4, none⟩ = some (.string u) ∧ w'.cell? ⟨a1, 5, none⟩ = some (.bool f) ∧ w'.cell? ⟨bt, ot, none⟩ = some (.string t))) (by kernel_rfl) HC.out (fun hHeld => ?_)
    refine wpAnyH_take (i := 0) (oi := _) (v := .pointer (some ⟨p, 0, none⟩)) rfl (by kernel_rfl) (by kernel_rfl) (by kernel_rfl) (fun _ _ _ h => h) (Or.inl ⟨by rfl, fun w' hSw => by (try dsimp only at hSw); go_simp⟩) (by assumption) ?_
    try simp only [Act.put, List.setIfInBounds_toArray, List.set_cons_zero, List.set_cons_succ]
    refine wpAnyH_take (i := 1) (oi := _) (v := .pointer (some ⟨a1, 3, none⟩)) rfl (by kernel_rfl) (by kernel_rfl) (by kernel_rfl) (fun _ _ _ h => h) (Or.inl ⟨by rfl, fun w' hSw => by (try dsimp only at hSw); go_simp⟩) (by assumption) ?_
    try simp only [Act.put, List.setIfInBounds_toArray, List.set_cons_zero, List.set_cons_succ]
    refine wpAnyH_take (i := 2) (oi := _) (v := .slice (some ⟨bt, ot, none⟩) k tcap) rfl (by kernel_rfl) (by kernel_rfl) (by kernel_rfl) (fun _ _ _ h => h) (Or.inl ⟨by rfl, fun w' hSw => by (try dsimp only at hSw); go_simp⟩) (by assumption) ?_
    try simp only [Act.put, List.setIfInBounds_toArray, List.set_cons_zero, List.set_cons_succ]
    refine wpAnyH_take (i := 3) (oi := _) (v := .pointer (some ⟨bt, ot, none⟩)) rfl (by kernel_rfl) (by kernel_rfl) (by kernel_rfl) (fun _ _ _ h => h) (Or.inl ⟨by rfl, fun w' hSw => by (try dsimp only at hSw); go_simp⟩) (by assumption) ?_
    try simp only [Act.put, List.setIfInBounds_toArray, List.set_cons_zero, List.set_cons_succ]
    refine wpAnyH_take (i := 4) (oi := _) (v := .string t) rfl (by kernel_rfl) (by kernel_rfl) (by kernel_rfl) (fun _ _ _ h => h) (Or.inl ⟨by rfl, fun w' hSw => by (try dsimp only at hSw); go_simp⟩) (by assumption) ?_
    try simp only [Act.put, List.setIfInBounds_toArray, List.set_cons_zero, List.set_cons_succ]
    refine wpAnyH_take (i := 6) (oi := _) (v := .pointer (some ⟨a1, 4, none⟩)) rfl (by kernel_rfl) (by kernel_rfl) (by kernel_rfl) (fun _ _ _ h => h) (Or.inl ⟨by rfl, fun w' hSw => by (try dsimp only at hSw); go_simp⟩) (by assumption) ?_
    try simp only [Act.put, List.setIfInBounds_toArray, List.set_cons_zero, List.set_cons_succ]
    refine wpAnyH_take (i := 7) (oi := _) (v := .string u) rfl (by kernel_rfl) (by kernel_rfl) (by kernel_rfl) (fun _ _ _ h => h) (Or.inl ⟨by rfl, fun w' hSw => by (try dsimp only at hSw); go_simp⟩) (by assumption) ?_
    try simp only [Act.put, List.setIfInBounds_toArray, List.set_cons_zero, List.set_cons_succ]
    refine wpAnyH_take (i := 9) (oi := _) (v := .pointer (some ⟨a1, 5, none⟩)) rfl (by kernel_rfl) (by kernel_rfl) (by kernel_rfl) (fun _ _ _ h => h) (Or.inl ⟨by rfl, fun w' hSw => by (try dsimp only at hSw); go_simp⟩) (by assumption) ?_
    try simp only [Act.put, List.setIfInBounds_toArray, List.set_cons_zero, List.set_cons_succ]
    refine wpAnyH_take (i := 10) (oi := _) (v := .bool f) rfl (by kernel_rfl) (by kernel_rfl) (by kernel_rfl) (fun _ _ _ h => h) (Or.inl ⟨by rfl, fun w' hSw => by (try dsimp only at hSw); go_simp⟩) (by assumption) ?_
    try simp only [Act.put, List.setIfInBounds_toArray, List.set_cons_zero, List.set_cons_succ]
    refine wpAnyH_ready (rs := [5, 8]) (by kernel_rfl) (by simp) ?_
    refine AllReadyH.cons (o := _) rfl (fun K hK => ?_) ?_
    · go_simp
      refine hK.out _ _ K1.out (fun hHeld => ?_)
      clear hK K
      try simp only [Act.put, List.setIfInBounds_toArray, List.set_cons_zero, List.set_cons_succ]
      refine wpAnyH_ready (rs := [8]) (by kernel_rfl) (by simp) ?_
      refine AllReadyH.cons (o := _) rfl (fun K hK => ?_) AllReadyH.nil
      go_simp
      refine hK.out _ _ K12.out (fun hHeld => ?_)
      clear hK K
      try simp only [Act.put, List.setIfInBounds_toArray, List.set_cons_zero, List.set_cons_succ]
      refine wpAnyH_ready (rs := [11]) (by kernel_rfl) (by simp) ?_
      refine AllReadyH.cons (o := _) rfl (fun K hK => ?_) AllReadyH.nil
      go_simp
      (with_reducible refine Z12.out.mono ?_)
      rintro x w2 ⟨rfl, h2, hb2⟩
      have hbb := D12.out.trans hb2
      have C2 := (show w2.cell? ⟨a1, 3, none⟩ = some (.slice (some ⟨bt, ot, none⟩) k tcap) ∧ w2.cell? ⟨a1, 4, none⟩ = some (.string u) ∧ w2.cell? ⟨a1, 5, none⟩ = some (.bool f) ∧ w2.cell? ⟨bt, ot, none⟩ = some (.string t) from And.intro (belowRow (w := w) (w1 := w2) hbb (HX.out 3 _ rfl)) (And.intro (belowRow hbb (HX.out 4 _ rfl)) (And.intro (belowRow hbb (HX.out 5 _ rfl)) (belowRow hbb HTT.out))))
      have j2 := O2.out.below hbb
      have k2' := j2.cell
      have f2' := j2.free
      refine hK.out _ _ C2 (fun hHeld => ?_)
      clear hK K
      try simp only [Act.put, List.setIfInBounds_toArray, List.set_cons_zero, List.set_cons_succ]
      refine wpAnyH_ready (rs := [12]) (by kernel_rfl) (by simp) ?_
      refine AllReadyH.cons (o := _) rfl (fun K hK => ?_) AllReadyH.nil
      go_simp
      refine hK.out _ _ ⟨cell_other n12 C2.1, cell_other n12 C2.2.1, cell_other n12 C2.2.2.1, cell_other nb2 C2.2.2.2⟩ (fun hHeld => ?_)
      clear hK K hHeld
      try simp only [Act.put, List.setIfInBounds_toArray, List.set_cons_zero, List.set_cons_succ]
      refine wpAnyH_done (by kernel_rfl) ?_ _
      refine NoPanic.normal ?_
      have HWS := Lib.hid (h2.other (c := a2) (j := 0) l2 (.bool told))
      have HO2 := Lib.hid (j2.set (.bool told))
      have HO3 := Lib.hid ((O3.out.below hbb).other (c := a2) (j := 0) (Ne.symm n23) (.bool told))
      have HO4 := Lib.hid ((O4.out.below hbb).other (c := a2) (j := 0) (Ne.symm n24) (.bool told))
      have HCH := Lib.hid ((Chg.of (a2 := a2) (a3 := a3) hbb).set2 0 (.bool told))
      clear h2 hb2 hbb j2 C2
      obtain ⟨⟨b', cap', hw', hr', _, _⟩, _⟩ := HWS.out
      have G := Lib.hid (snow_of p b' cap' rs' q1 q2 q3 (w2.setCell ⟨a2, 0, none⟩ (.bool told)) hw' hr'.at)
      rw [htq] at G
      clear hw' hr'
      go_wp2_with fail
      refine G.out.mono ?_
      rintro x w4 ⟨rfl, hb4⟩
      have hsz4 := hb4.size
      have t2 := Lib.hid (HO2.out.below hb4)
      have t3 := Lib.hid (HO3.out.below hb4)
      have t4 := HO4.out.below hb4
      have T4 := Lib.hid (t4.set4 (.string tq) (.int .i64 q1) (.int .i64 q2) (.int .i64 q3))
      have k0 : w4.cell? ⟨a4, 0, none⟩ = some z0 := t4.row 0 _ rfl
      have k1 : w4.cell? ⟨a4, 1, none⟩ = some z1 := t4.row 1 _ rfl
      have k2 : w4.cell? ⟨a4, 2, none⟩ = some z2 := t4.row 2 _ rfl
      have k3 : w4.cell? ⟨a4, 3, none⟩ = some z3 := t4.row 3 _ rfl
      have fz : ∀ i, w4.frozen? ⟨a4, i, none⟩ = false := t4.free
      have HB4 := Lib.hid hb4
      clear t4 hb4 G
      unfold snowV
      go_wp2
      go_end0
      change _ ∧ One (set4 w4 a4 (.string tq) (.int .i64 q1) (.int .i64 q2) (.int .i64 q3)) _ _ ∧ One (set4 w4 a4 (.string tq) (.int .i64 q1) (.int .i64 q2) (.int .i64 q3)) _ _ ∧ BoxAt (set4 w4 a4 (.string tq) (.int .i64 q1) (.int .i64 q2) (.int .i64 q3)) _ _ ∧ _
      have hs5 : (set4 w4 a4 (.string tq) (.int .i64 q1) (.int .i64 q2) (.int .i64 q3)).heap.size = w4.heap.size := by simp [Go.Proofs.Ytaohmmpfiehniaa.set4, World.setCell]
      have C := HCH.out
      have cs := C.size
      refine ⟨rfl, (((t2.out.other n24 _).other n24 _).other n24 _).other n24 _, (((t3.out.other n34 _).other n34 _).other n34 _).other n34 _, T4.out, ?_, ?_, ?_⟩
      · show _ ≤ (set4 w4 a4 (.string tq) (.int .i64 q1) (.int .i64 q2) (.int .i64 q3)).heap.size
        rw [hs5]; omega
      · intro k hk h2 h3 h4
        show (set4 w4 a4 (.string tq) (.int .i64 q1) (.int .i64 q2) (.int .i64 q3)).heap[k]? = _
        rw [set4_heap _ _ _ _ _ _ _ h4, HB4.out.block k (by omega), C.heap k hk h2 h3]
      · exact ⟨HB4.out.os.trans C.os, HB4.out.tape.trans C.tape, HB4.out.output.trans C.output⟩

    refine AllReadyH.cons (o := _) rfl (fun K hK => ?_) AllReadyH.nil
    · go_simp
      refine hK.out _ _ K2.out (fun hHeld => ?_)
      clear hK K
      try simp only [Act.put, List.setIfInBounds_toArray, List.set_cons_zero, List.set_cons_succ]
      refine wpAnyH_ready (rs := [5]) (by kernel_rfl) (by simp) ?_
      refine AllReadyH.cons (o := _) rfl (fun K hK => ?_) AllReadyH.nil
      go_simp
      refine hK.out _ _ K21.out (fun hHeld => ?_)
      clear hK K
      try simp only [Act.put, List.setIfInBounds_toArray, List.set_cons_zero, List.set_cons_succ]
      refine wpAnyH_ready (rs := [11]) (by kernel_rfl) (by simp) ?_
      refine AllReadyH.cons (o := _) rfl (fun K hK => ?_) AllReadyH.nil
      go_simp
      (with_reducible refine Z21.out.mono ?_)
      rintro x w2 ⟨rfl, h2, hb2⟩
      have hbb := D21.out.trans hb2
      have C2 := (show w2.cell? ⟨a1, 3, none⟩ = some (.slice (some ⟨bt, ot, none⟩) k tcap) ∧ w2.cell? ⟨a1, 4, none⟩ = some (.string u) ∧ w2.cell? ⟨a1, 5, none⟩ = some (.bool f) ∧ w2.cell? ⟨bt, ot, none⟩ = some (.string t) from And.intro (belowRow (w := w) (w1 := w2) hbb (HX.out 3 _ rfl)) (And.intro (belowRow hbb (HX.out 4 _ rfl)) (And.intro (belowRow hbb (HX.out 5 _ rfl)) (belowRow hbb HTT.out))))
      have j2 := O2.out.below hbb
      have k2' := j2.cell
      have f2' := j2.free
      refine hK.out _ _ C2 (fun hHeld => ?_)
      clear hK K
      try simp only [Act.put, List.setIfInBounds_toArray, List.set_cons_zero, List.set_cons_succ]
      refine wpAnyH_ready (rs := [12]) (by kernel_rfl) (by simp) ?_
      refine AllReadyH.cons (o := _) rfl (fun K hK => ?_) AllReadyH.nil
      go_simp
      refine hK.out _ _ ⟨cell_other n12 C2.1, cell_other n12 C2.2.1, cell_other n12 C2.2.2.1, cell_other nb2 C2.2.2.2⟩ (fun hHeld => ?_)
      clear hK K hHeld
      try simp only [Act.put, List.setIfInBounds_toArray, List.set_cons_zero, List.set_cons_succ]
      refine wpAnyH_done (by kernel_rfl) ?_ _
      refine NoPanic.normal ?_
      have HWS := Lib.hid (h2.other (c := a2) (j := 0) l2 (.bool told))
      have HO2 := Lib.hid (j2.set (.bool told))
      have HO3 := Lib.hid ((O3.out.below hbb).other (c := a2) (j := 0) (Ne.symm n23) (.bool told))
      have HO4 := Lib.hid ((O4.out.below hbb).other (c := a2) (j := 0) (Ne.symm n24) (.bool told))
      have HCH := Lib.hid ((Chg.of (a2 := a2) (a3 := a3) hbb).set2 0 (.bool told))
      clear h2 hb2 hbb j2 C2
      obtain ⟨⟨b', cap', hw', hr', _, _⟩, _⟩ := HWS.out
      have G := Lib.hid (snow_of p b' cap' rs' q1 q2 q3 (w2.setCell ⟨a2, 0, none⟩ (.bool told)) hw' hr'.at)
      rw [htq] at G
      clear hw' hr'
      go_wp2_with fail
      refine G.out.mono ?_
      rintro x w4 ⟨rfl, hb4⟩
      have hsz4 := hb4.size
      have t2 := Lib.hid (HO2.out.below hb4)
      have t3 := Lib.hid (HO3.out.below hb4)
      have t4 := HO4.out.below hb4
      have T4 := Lib.hid (t4.set4 (.string tq) (.int .i64 q1) (.int .i64 q2) (.int .i64 q3))
      have k0 : w4.cell? ⟨a4, 0, none⟩ = some z0 := t4.row 0 _ rfl
      have k1 : w4.cell? ⟨a4, 1, none⟩ = some z1 := t4.row 1 _ rfl
      have k2 : w4.cell? ⟨a4, 2, none⟩ = some z2 := t4.row 2 _ rfl
      have k3 : w4.cell? ⟨a4, 3, none⟩ = some z3 := t4.row 3 _ rfl
      have fz : ∀ i, w4.frozen? ⟨a4, i, none⟩ = false := t4.free
      have HB4 := Lib.hid hb4
      clear t4 hb4 G
      unfold snowV
      go_wp2
      go_end0
      change _ ∧ One (set4 w4 a4 (.string tq) (.int .i64 q1) (.int .i64 q2) (.int .i64 q3)) _ _ ∧ One (set4 w4 a4 (.string tq) (.int .i64 q1) (.int .i64 q2) (.int .i64 q3)) _ _ ∧ BoxAt (set4 w4 a4 (.string tq) (.int .i64 q1) (.int .i64 q2) (.int .i64 q3)) _ _ ∧ _
      have hs5 : (set4 w4 a4 (.string tq) (.int .i64 q1) (.int .i64 q2) (.int .i64 q3)).heap.size = w4.heap.size := by simp [Go.Proofs.Ytaohmmpfiehniaa.set4, World.setCell]
      have C := HCH.out
      have cs := C.size
      refine ⟨rfl, (((t2.out.other n24 _).other n24 _).other n24 _).other n24 _, (((t3.out.other n34 _).other n34 _).other n34 _).other n34 _, T4.out, ?_, ?_, ?_⟩
      · show _ ≤ (set4 w4 a4 (.string tq) (.int .i64 q1) (.int .i64 q2) (.int .i64 q3)).heap.size
        rw [hs5]; omega
      · intro k hk h2 h3 h4
        show (set4 w4 a4 (.string tq) (.int .i64 q1) (.int .i64 q2) (.int .i64 q3)).heap[k]? = _
        rw [set4_heap _ _ _ _ _ _ _ h4, HB4.out.block k (by omega), C.heap k hk h2 h3]
      · exact ⟨HB4.out.os.trans C.os, HB4.out.tape.trans C.tape, HB4.out.output.trans C.output⟩



set_option maxRecDepth 20000 in
set_option maxHeartbeats 8000000 in
theorem st_3 (s : ByteArray) (rs : List Int) (hrs : Runes s rs) (r1 r2 rv : Int) (a0 a1 a2 a3 a4 : Nat) (N st : Int) (ad : Option Addr) (k tcap : Nat) (u : ByteArray) (f : Bool) (rs' : List Int) (q1 q2 q3 : Int) (told : Bool) (txt : ByteArray) (htold : told = false) (tq : ByteArray) (htq : runesBytes rs' = tq) (w : World) (ss : List ByteArray) (ht : StrsAt w ad ss)
    (F : ∀ w1 p, WS w1 p w.heap.size rs r1 r2 rv → StrsAt w1 ad ss → w.heap.size ≤ w1.heap.size → Calls Try.prog 35 #[.pointer (some ⟨p, 0, none⟩), .slice ad k tcap] w1 fun x w2 => x = .returned (.string txt) ∧ WS w2 p w.heap.size rs' q1 q2 q3 ∧ Below w.heap.size w1 w2)
    (hs : RowAt w a0 #[.string s, .int .i64 r1, .int .i64 r2, .int .i64 rv]) (hx : RowAt w a1 #[.int .i64 3, .int .i64 N, .int .i64 st, .slice ad k tcap, .string u, .bool f]) (o2 : One w a2 (.bool false)) (o3 : One w a3 (.string ⟨#[]⟩)) (z0 z1 z2 z3 : Value) (o4 : BoxAt w a4 #[z0, z1, z2, z3])
    (n23 : a2 ≠ a3) (n24 : a2 ≠ a4) (n34 : a3 ≠ a4) (n12 : a1 ≠ a2) (n13 : a1 ≠ a3) :
    Calls Try.prog 30 #[.pointer (some ⟨a0, 0, none⟩), .pointer (some ⟨a1, 0, none⟩), .pointer (some ⟨a2, 0, none⟩), .pointer (some ⟨a3, 0, none⟩), .pointer (some ⟨a4, 0, none⟩)] w fun x w' => x = .returned (.tuple #[]) ∧ One w' a2 (.bool told) ∧ One w' a3 (.string txt) ∧ BoxAt w' a4 #[.string tq, .int .i64 q1, .int .i64 q2, .int .i64 q3] ∧
      w.heap.size ≤ w'.heap.size ∧ (∀ k, k < w.heap.size → k ≠ a2 → k ≠ a3 → k ≠ a4 → w'.heap[k]? = w.heap[k]?) ∧ w'.os = w.os ∧ w'.tape = w.tape ∧ w'.output = w.output := by
    have e0 : w.cell? ⟨a0, 0, none⟩ = some (.string s) := hs 0 _ rfl
    have e1 : w.cell? ⟨a0, 1, none⟩ = some (.int .i64 r1) := hs 1 _ rfl
    have e2 : w.cell? ⟨a0, 2, none⟩ = some (.int .i64 r2) := hs 2 _ rfl
    have e3 : w.cell? ⟨a0, 3, none⟩ = some (.int .i64 rv) := hs 3 _ rfl
    clear hs
    have l2 := o2.lt
    have l3 := o3.lt
    have l4 : a4 < w.heap.size := (Array.getElem?_eq_some_iff.1 (show w.heap[a4]? = _ from o4)).1
    have O2 := Lib.hid o2
    have O3 := Lib.hid o3
    have O4 := Lib.hid o4
    have HX := Lib.hid hx
    have HF := Lib.hid F
    clear o2 o3 o4 hx F
    subst htold
    have HTT := Lib.hid ht
    clear ht
    go_enter Try.func30, Try.ntmps30
    go_wp2_with fail
    refine (word_own s rs hrs r1 r2 rv w).mono ?_
    rintro x w1 ⟨p, b, cap, rfl, hw, hr, hpb, hp, hb, hb1⟩
    have hsz1 := hb1.size
    have H1 := Lib.hid (show WS w1 p w.heap.size rs r1 r2 rv from ⟨⟨b, cap, hw, hr, hpb, hb⟩, hp⟩)
    have hx1 := HX.out.below hb1
    have HB1 := Lib.hid hb1
    have c10 : w1.cell? ⟨a1, 0, none⟩ = some (.int .i64 3) := hx1 0 _ rfl
    have c13 : w1.cell? ⟨a1, 3, none⟩ = some (.slice ad k tcap) := hx1 3 _ rfl
    have s1 := Lib.hid (HTT.out.below hb1)
    clear e0 e1 e2 e3 hw hr hb1 hx1 hrs
    go_wp2_with fail
    refine (HF.out w1 p H1.out s1.out hsz1).mono ?_
    rintro x w2 ⟨rfl, h2, hb2⟩
    have hbb := HB1.out.trans hb2
    have j3 := O3.out.below hbb
    have k3' := j3.cell
    have f3' := j3.free
    have HWS := Lib.hid (h2.other (c := a3) (j := 0) l3 (.string txt))
    have HO2 := Lib.hid ((O2.out.below hbb).other (c := a3) (j := 0) n23 (.string txt))
    have HO3 := Lib.hid (j3.set (.string txt))
    have HO4 := Lib.hid ((O4.out.below hbb).other (c := a3) (j := 0) (Ne.symm n34) (.string txt))
    have HCH := Lib.hid ((Chg.of (a2 := a2) (a3 := a3) hbb).set3 0 (.string txt))
    clear h2 hb2 hbb c10 c13 j3
    obtain ⟨⟨b', cap', hw', hr', _, _⟩, _⟩ := HWS.out
    have G := Lib.hid (snow_of p b' cap' rs' q1 q2 q3 (w2.setCell ⟨a3, 0, none⟩ (.string txt)) hw' hr'.at)
    rw [htq] at G
    clear hw' hr'
    go_wp2_with fail
    refine G.out.mono ?_
    rintro x w4 ⟨rfl, hb4⟩
    have hsz4 := hb4.size
    have t2 := Lib.hid (HO2.out.below hb4)
    have t3 := Lib.hid (HO3.out.below hb4)
    have t4 := HO4.out.below hb4
    have T4 := Lib.hid (t4.set4 (.string tq) (.int .i64 q1) (.int .i64 q2) (.int .i64 q3))
    have k0 : w4.cell? ⟨a4, 0, none⟩ = some z0 := t4.row 0 _ rfl
    have k1 : w4.cell? ⟨a4, 1, none⟩ = some z1 := t4.row 1 _ rfl
    have k2 : w4.cell? ⟨a4, 2, none⟩ = some z2 := t4.row 2 _ rfl
    have k3 : w4.cell? ⟨a4, 3, none⟩ = some z3 := t4.row 3 _ rfl
    have fz : ∀ i, w4.frozen? ⟨a4, i, none⟩ = false := t4.free
    have HB4 := Lib.hid hb4
    clear t4 hb4 G
    unfold snowV
    go_wp2
    go_end0
    change _ ∧ One (set4 w4 a4 (.string tq) (.int .i64 q1) (.int .i64 q2) (.int .i64 q3)) _ _ ∧ One (set4 w4 a4 (.string tq) (.int .i64 q1) (.int .i64 q2) (.int .i64 q3)) _ _ ∧ BoxAt (set4 w4 a4 (.string tq) (.int .i64 q1) (.int .i64 q2) (.int .i64 q3)) _ _ ∧ _
    have hs5 : (set4 w4 a4 (.string tq) (.int .i64 q1) (.int .i64 q2) (.int .i64 q3)).heap.size = w4.heap.size := by simp [Go.Proofs.Ytaohmmpfiehniaa.set4, World.setCell]
    have C := HCH.out
    have cs := C.size
    refine ⟨rfl, (((t2.out.other n24 _).other n24 _).other n24 _).other n24 _, (((t3.out.other n34 _).other n34 _).other n34 _).other n34 _, T4.out, ?_, ?_, ?_⟩
    · show _ ≤ (set4 w4 a4 (.string tq) (.int .i64 q1) (.int .i64 q2) (.int .i64 q3)).heap.size
      rw [hs5]; omega
    · intro k hk h2 h3 h4
      show (set4 w4 a4 (.string tq) (.int .i64 q1) (.int .i64 q2) (.int .i64 q3)).heap[k]? = _
      rw [set4_heap _ _ _ _ _ _ _ h4, HB4.out.block k (by omega), C.heap k hk h2 h3]
    · exact ⟨HB4.out.os.trans C.os, HB4.out.tape.trans C.tape, HB4.out.output.trans C.output⟩


set_option maxRecDepth 20000 in
set_option maxHeartbeats 8000000 in
theorem st_4 (s : ByteArray) (rs : List Int) (hrs : Runes s rs) (r1 r2 rv : Int) (a0 a1 a2 a3 a4 : Nat) (N st : Int) (ad : Option Addr) (k tcap : Nat) (u : ByteArray) (f : Bool) (rs' : List Int) (q1 q2 q3 : Int) (told : Bool) (txt : ByteArray) (htold : told = false) (tq : ByteArray) (htq : runesBytes rs' = tq) (w : World) (ss : List ByteArray) (ht : StrsAt w ad ss)
    (F : ∀ w1 p, WS w1 p w.heap.size rs r1 r2 rv → StrsAt w1 ad ss → w.heap.size ≤ w1.heap.size → Calls Try.prog 36 #[.pointer (some ⟨p, 0, none⟩), .int .i64 st, .slice ad k tcap] w1 fun x w2 => x = .returned (.string txt) ∧ WS w2 p w.heap.size rs' q1 q2 q3 ∧ Below w.heap.size w1 w2)
    (hs : RowAt w a0 #[.string s, .int .i64 r1, .int .i64 r2, .int .i64 rv]) (hx : RowAt w a1 #[.int .i64 4, .int .i64 N, .int .i64 st, .slice ad k tcap, .string u, .bool f]) (o2 : One w a2 (.bool false)) (o3 : One w a3 (.string ⟨#[]⟩)) (z0 z1 z2 z3 : Value) (o4 : BoxAt w a4 #[z0, z1, z2, z3])
    (n23 : a2 ≠ a3) (n24 : a2 ≠ a4) (n34 : a3 ≠ a4) (n12 : a1 ≠ a2) (n13 : a1 ≠ a3) :
    Calls Try.prog 30 #[.pointer (some ⟨a0, 0, none⟩), .pointer (some ⟨a1, 0, none⟩), .pointer (some ⟨a2, 0, none⟩), .pointer (some ⟨a3, 0, none⟩), .pointer (some ⟨a4, 0, none⟩)] w fun x w' => x = .returned (.tuple #[]) ∧ One w' a2 (.bool told) ∧ One w' a3 (.string txt) ∧ BoxAt w' a4 #[.string tq, .int .i64 q1, .int .i64 q2, .int .i64 q3] ∧
      w.heap.size ≤ w'.heap.size ∧ (∀ k, k < w.heap.size → k ≠ a2 → k ≠ a3 → k ≠ a4 → w'.heap[k]? = w.heap[k]?) ∧ w'.os = w.os ∧ w'.tape = w.tape ∧ w'.output = w.output := by
    have e0 : w.cell? ⟨a0, 0, none⟩ = some (.string s) := hs 0 _ rfl
    have e1 : w.cell? ⟨a0, 1, none⟩ = some (.int .i64 r1) := hs 1 _ rfl
    have e2 : w.cell? ⟨a0, 2, none⟩ = some (.int .i64 r2) := hs 2 _ rfl
    have e3 : w.cell? ⟨a0, 3, none⟩ = some (.int .i64 rv) := hs 3 _ rfl
    clear hs
    have l2 := o2.lt
    have l3 := o3.lt
    have l4 : a4 < w.heap.size := (Array.getElem?_eq_some_iff.1 (show w.heap[a4]? = _ from o4)).1
    have O2 := Lib.hid o2
    have O3 := Lib.hid o3
    have O4 := Lib.hid o4
    have HX := Lib.hid hx
    have HF := Lib.hid F
    clear o2 o3 o4 hx F
    subst htold
    have HTT := Lib.hid ht
    clear ht
    go_enter Try.func30, Try.ntmps30
    go_wp2_with fail
    refine (word_own s rs hrs r1 r2 rv w).mono ?_
    rintro x w1 ⟨p, b, cap, rfl, hw, hr, hpb, hp, hb, hb1⟩
    have hsz1 := hb1.size
    have H1 := Lib.hid (show WS w1 p w.heap.size rs r1 r2 rv from ⟨⟨b, cap, hw, hr, hpb, hb⟩, hp⟩)
    have hx1 := HX.out.below hb1
    have HB1 := Lib.hid hb1
    have c10 : w1.cell? ⟨a1, 0, none⟩ = some (.int .i64 4) := hx1 0 _ rfl
    have c12 : w1.cell? ⟨a1, 2, none⟩ = some (.int .i64 st) := hx1 2 _ rfl
    have c13 : w1.cell? ⟨a1, 3, none⟩ = some (.slice ad k tcap) := hx1 3 _ rfl
    have s1 := Lib.hid (HTT.out.below hb1)
    clear e0 e1 e2 e3 hw hr hb1 hx1 hrs
    go_wp2_with fail
    refine (HF.out w1 p H1.out s1.out hsz1).mono ?_
    rintro x w2 ⟨rfl, h2, hb2⟩
    have hbb := HB1.out.trans hb2
    have j3 := O3.out.below hbb
    have k3' := j3.cell
    have f3' := j3.free
    have HWS := Lib.hid (h2.other (c := a3) (j := 0) l3 (.string txt))
    have HO2 := Lib.hid ((O2.out.below hbb).other (c := a3) (j := 0) n23 (.string txt))
    have HO3 := Lib.hid (j3.set (.string txt))
    have HO4 := Lib.hid ((O4.out.below hbb).other (c := a3) (j := 0) (Ne.symm n34) (.string txt))
    have HCH := Lib.hid ((Chg.of (a2 := a2) (a3 := a3) hbb).set3 0 (.string txt))
    clear h2 hb2 hbb c10 c13 c12 j3
    obtain ⟨⟨b', cap', hw', hr', _, _⟩, _⟩ := HWS.out
    have G := Lib.hid (snow_of p b' cap' rs' q1 q2 q3 (w2.setCell ⟨a3, 0, none⟩ (.string txt)) hw' hr'.at)
    rw [htq] at G
    clear hw' hr'
    go_wp2_with fail
    refine G.out.mono ?_
    rintro x w4 ⟨rfl, hb4⟩
    have hsz4 := hb4.size
    have t2 := Lib.hid (HO2.out.below hb4)
    have t3 := Lib.hid (HO3.out.below hb4)
    have t4 := HO4.out.below hb4
    have T4 := Lib.hid (t4.set4 (.string tq) (.int .i64 q1) (.int .i64 q2) (.int .i64 q3))
    have k0 : w4.cell? ⟨a4, 0, none⟩ = some z0 := t4.row 0 _ rfl
    have k1 : w4.cell? ⟨a4, 1, none⟩ = some z1 := t4.row 1 _ rfl
    have k2 : w4.cell? ⟨a4, 2, none⟩ = some z2 := t4.row 2 _ rfl
    have k3 : w4.cell? ⟨a4, 3, none⟩ = some z3 := t4.row 3 _ rfl
    have fz : ∀ i, w4.frozen? ⟨a4, i, none⟩ = false := t4.free
    have HB4 := Lib.hid hb4
    clear t4 hb4 G
    unfold snowV
    go_wp2
    go_end0
    change _ ∧ One (set4 w4 a4 (.string tq) (.int .i64 q1) (.int .i64 q2) (.int .i64 q3)) _ _ ∧ One (set4 w4 a4 (.string tq) (.int .i64 q1) (.int .i64 q2) (.int .i64 q3)) _ _ ∧ BoxAt (set4 w4 a4 (.string tq) (.int .i64 q1) (.int .i64 q2) (.int .i64 q3)) _ _ ∧ _
    have hs5 : (set4 w4 a4 (.string tq) (.int .i64 q1) (.int .i64 q2) (.int .i64 q3)).heap.size = w4.heap.size := by simp [Go.Proofs.Ytaohmmpfiehniaa.set4, World.setCell]
    have C := HCH.out
    have cs := C.size
    refine ⟨rfl, (((t2.out.other n24 _).other n24 _).other n24 _).other n24 _, (((t3.out.other n34 _).other n34 _).other n34 _).other n34 _, T4.out, ?_, ?_, ?_⟩
    · show _ ≤ (set4 w4 a4 (.string tq) (.int .i64 q1) (.int .i64 q2) (.int .i64 q3)).heap.size
      rw [hs5]; omega
    · intro k hk h2 h3 h4
      show (set4 w4 a4 (.string tq) (.int .i64 q1) (.int .i64 q2) (.int .i64 q3)).heap[k]? = _
      rw [set4_heap _ _ _ _ _ _ _ h4, HB4.out.block k (by omega), C.heap k hk h2 h3]
    · exact ⟨HB4.out.os.trans C.os, HB4.out.tape.trans C.tape, HB4.out.output.trans C.output⟩


set_option maxRecDepth 20000 in
set_option maxHeartbeats 8000000 in
theorem st_5 (s : ByteArray) (rs : List Int) (hrs : Runes s rs) (r1 r2 rv : Int) (a0 a1 a2 a3 a4 : Nat) (N st : Int) (ad : Option Addr) (k tcap : Nat) (u : ByteArray) (f : Bool) (rs' : List Int) (q1 q2 q3 : Int) (told : Bool) (txt : ByteArray) (htold : told = false) (tq : ByteArray) (htq : runesBytes rs' = tq) (w : World) (ss : List ByteArray) (ht : StrsAt w ad ss)
    (F : ∀ w1 p, WS w1 p w.heap.size rs r1 r2 rv → StrsAt w1 ad ss → w.heap.size ≤ w1.heap.size → Calls Try.prog 37 #[.pointer (some ⟨p, 0, none⟩), .int .i64 st, .slice ad k tcap] w1 fun x w2 => x = .returned (.string txt) ∧ WS w2 p w.heap.size rs' q1 q2 q3 ∧ Below w.heap.size w1 w2)
    (hs : RowAt w a0 #[.string s, .int .i64 r1, .int .i64 r2, .int .i64 rv]) (hx : RowAt w a1 #[.int .i64 5, .int .i64 N, .int .i64 st, .slice ad k tcap, .string u, .bool f]) (o2 : One w a2 (.bool false)) (o3 : One w a3 (.string ⟨#[]⟩)) (z0 z1 z2 z3 : Value) (o4 : BoxAt w a4 #[z0, z1, z2, z3])
    (n23 : a2 ≠ a3) (n24 : a2 ≠ a4) (n34 : a3 ≠ a4) (n12 : a1 ≠ a2) (n13 : a1 ≠ a3) :
    Calls Try.prog 30 #[.pointer (some ⟨a0, 0, none⟩), .pointer (some ⟨a1, 0, none⟩), .pointer (some ⟨a2, 0, none⟩), .pointer (some ⟨a3, 0, none⟩), .pointer (some ⟨a4, 0, none⟩)] w fun x w' => x = .returned (.tuple #[]) ∧ One w' a2 (.bool told) ∧ One w' a3 (.string txt) ∧ BoxAt w' a4 #[.string tq, .int .i64 q1, .int .i64 q2, .int .i64 q3] ∧
      w.heap.size ≤ w'.heap.size ∧ (∀ k, k < w.heap.size → k ≠ a2 → k ≠ a3 → k ≠ a4 → w'.heap[k]? = w.heap[k]?) ∧ w'.os = w.os ∧ w'.tape = w.tape ∧ w'.output = w.output := by
    have e0 : w.cell? ⟨a0, 0, none⟩ = some (.string s) := hs 0 _ rfl
    have e1 : w.cell? ⟨a0, 1, none⟩ = some (.int .i64 r1) := hs 1 _ rfl
    have e2 : w.cell? ⟨a0, 2, none⟩ = some (.int .i64 r2) := hs 2 _ rfl
    have e3 : w.cell? ⟨a0, 3, none⟩ = some (.int .i64 rv) := hs 3 _ rfl
    clear hs
    have l2 := o2.lt
    have l3 := o3.lt
    have l4 : a4 < w.heap.size := (Array.getElem?_eq_some_iff.1 (show w.heap[a4]? = _ from o4)).1
    have O2 := Lib.hid o2
    have O3 := Lib.hid o3
    have O4 := Lib.hid o4
    have HX := Lib.hid hx
    have HF := Lib.hid F
    clear o2 o3 o4 hx F
    subst htold
    have HTT := Lib.hid ht
    clear ht
    go_enter Try.func30, Try.ntmps30
    go_wp2_with fail
    refine (word_own s rs hrs r1 r2 rv w).mono ?_
    rintro x w1 ⟨p, b, cap, rfl, hw, hr, hpb, hp, hb, hb1⟩
    have hsz1 := hb1.size
    have H1 := Lib.hid (show WS w1 p w.heap.size rs r1 r2 rv from ⟨⟨b, cap, hw, hr, hpb, hb⟩, hp⟩)
    have hx1 := HX.out.below hb1
    have HB1 := Lib.hid hb1
    have c10 : w1.cell? ⟨a1, 0, none⟩ = some (.int .i64 5) := hx1 0 _ rfl
    have c12 : w1.cell? ⟨a1, 2, none⟩ = some (.int .i64 st) := hx1 2 _ rfl
    have c13 : w1.cell? ⟨a1, 3, none⟩ = some (.slice ad k tcap) := hx1 3 _ rfl
    have s1 := Lib.hid (HTT.out.below hb1)
    clear e0 e1 e2 e3 hw hr hb1 hx1 hrs
    go_wp2_with fail
    refine (HF.out w1 p H1.out s1.out hsz1).mono ?_
    rintro x w2 ⟨rfl, h2, hb2⟩
    have hbb := HB1.out.trans hb2
    have j3 := O3.out.below hbb
    have k3' := j3.cell
    have f3' := j3.free
    have HWS := Lib.hid (h2.other (c := a3) (j := 0) l3 (.string txt))
    have HO2 := Lib.hid ((O2.out.below hbb).other (c := a3) (j := 0) n23 (.string txt))
    have HO3 := Lib.hid (j3.set (.string txt))
    have HO4 := Lib.hid ((O4.out.below hbb).other (c := a3) (j := 0) (Ne.symm n34) (.string txt))
    have HCH := Lib.hid ((Chg.of (a2 := a2) (a3 := a3) hbb).set3 0 (.string txt))
    clear h2 hb2 hbb c10 c13 c12 j3
    obtain ⟨⟨b', cap', hw', hr', _, _⟩, _⟩ := HWS.out
    have G := Lib.hid (snow_of p b' cap' rs' q1 q2 q3 (w2.setCell ⟨a3, 0, none⟩ (.string txt)) hw' hr'.at)
    rw [htq] at G
    clear hw' hr'
    go_wp2_with fail
    refine G.out.mono ?_
    rintro x w4 ⟨rfl, hb4⟩
    have hsz4 := hb4.size
    have t2 := Lib.hid (HO2.out.below hb4)
    have t3 := Lib.hid (HO3.out.below hb4)
    have t4 := HO4.out.below hb4
    have T4 := Lib.hid (t4.set4 (.string tq) (.int .i64 q1) (.int .i64 q2) (.int .i64 q3))
    have k0 : w4.cell? ⟨a4, 0, none⟩ = some z0 := t4.row 0 _ rfl
    have k1 : w4.cell? ⟨a4, 1, none⟩ = some z1 := t4.row 1 _ rfl
    have k2 : w4.cell? ⟨a4, 2, none⟩ = some z2 := t4.row 2 _ rfl
    have k3 : w4.cell? ⟨a4, 3, none⟩ = some z3 := t4.row 3 _ rfl
    have fz : ∀ i, w4.frozen? ⟨a4, i, none⟩ = false := t4.free
    have HB4 := Lib.hid hb4
    clear t4 hb4 G
    unfold snowV
    go_wp2
    go_end0
    change _ ∧ One (set4 w4 a4 (.string tq) (.int .i64 q1) (.int .i64 q2) (.int .i64 q3)) _ _ ∧ One (set4 w4 a4 (.string tq) (.int .i64 q1) (.int .i64 q2) (.int .i64 q3)) _ _ ∧ BoxAt (set4 w4 a4 (.string tq) (.int .i64 q1) (.int .i64 q2) (.int .i64 q3)) _ _ ∧ _
    have hs5 : (set4 w4 a4 (.string tq) (.int .i64 q1) (.int .i64 q2) (.int .i64 q3)).heap.size = w4.heap.size := by simp [Go.Proofs.Ytaohmmpfiehniaa.set4, World.setCell]
    have C := HCH.out
    have cs := C.size
    refine ⟨rfl, (((t2.out.other n24 _).other n24 _).other n24 _).other n24 _, (((t3.out.other n34 _).other n34 _).other n34 _).other n34 _, T4.out, ?_, ?_, ?_⟩
    · show _ ≤ (set4 w4 a4 (.string tq) (.int .i64 q1) (.int .i64 q2) (.int .i64 q3)).heap.size
      rw [hs5]; omega
    · intro k hk h2 h3 h4
      show (set4 w4 a4 (.string tq) (.int .i64 q1) (.int .i64 q2) (.int .i64 q3)).heap[k]? = _
      rw [set4_heap _ _ _ _ _ _ _ h4, HB4.out.block k (by omega), C.heap k hk h2 h3]
    · exact ⟨HB4.out.os.trans C.os, HB4.out.tape.trans C.tape, HB4.out.output.trans C.output⟩

end Go.Proofs.Ytaohmmpfiehniaa
