/- The contract of the closure of impl.SnowIn. -/
import Derived.Test.YtaohmmpfiehniaaSpecIn
import Derived.Test.YtaohmmpfiehniaaFirst
import Derived.Deep.DeepCutAuto
import Derived.Deep.Cut
import Derived.Deep.CutBlock
set_option linter.unusedVariables false
set_option linter.unusedSimpArgs false
namespace Go.Proofs.Ytaohmmpfiehniaa
open Go.RowKit

theorem StrsAt.other {w : World} {ad : Option Addr} {ss : List ByteArray} (h : StrsAt w ad ss) {c j : Nat} (hn : ∀ b o q, ad = some ⟨b, o, q⟩ → b ≠ c) (y : Value) : StrsAt (w.setCell ⟨c, j, none⟩ y) ad ss := fun i hi => by
  obtain ⟨b, o, h1, h2⟩ := h i hi
  exact ⟨b, o, h1, cell_other (hn b o none h1) h2⟩

structure PN (w : World) (p b cap : Nat) (ad : Option Addr) (tcap k : Nat) (r1 r2 rv : Int) (rs : List Int) (ss : List ByteArray) (st e : Int) (a1 a2 a3 a4 a5 a6 a7 : Nat) (x4 x5 x6 x7 : Value) : Prop where
  wd : WordAt w p (wordRow b rs.length cap r1 r2 rv)
  rn : RunesAt w b rs
  sa : StrsAt w ad ss
  c1 : w.cell? ⟨a1, 0, none⟩ = some (.int .i64 st)
  c2 : w.cell? ⟨a2, 0, none⟩ = some (.int .i64 e)
  c3 : w.cell? ⟨a3, 0, none⟩ = some (.slice ad k tcap)
  o4 : One w a4 x4
  o5 : One w a5 x5
  o6 : One w a6 x6
  o7 : One w a7 x7
section
variable {w w1 : World} {p b cap : Nat} {ad : Option Addr} {tcap k : Nat} {r1 r2 rv : Int} {rs : List Int} {ss : List ByteArray} {st e : Int} {a1 a2 a3 a4 a5 a6 a7 : Nat} {x4 x5 x6 x7 : Value}
theorem pnBelow (hb : Below w.heap.size w w1) (h : PN w p b cap ad tcap k r1 r2 rv rs ss st e a1 a2 a3 a4 a5 a6 a7 x4 x5 x6 x7) : PN w1 p b cap ad tcap k r1 r2 rv rs ss st e a1 a2 a3 a4 a5 a6 a7 x4 x5 x6 x7 :=
  ⟨h.wd.below hb, h.rn.below hb, h.sa.below hb, belowRow hb h.c1, belowRow hb h.c2, belowRow hb h.c3, h.o4.below hb, h.o5.below hb, h.o6.below hb, h.o7.below hb⟩
theorem PN.drewN (h : PN w p b cap ad tcap k r1 r2 rv rs ss st e a1 a2 a3 a4 a5 a6 a7 x4 x5 x6 x7) (n : Nat) : PN (w.drewN n) p b cap ad tcap k r1 r2 rv rs ss st e a1 a2 a3 a4 a5 a6 a7 x4 x5 x6 x7 :=
  ⟨h.wd, h.rn, h.sa, h.c1, h.c2, h.c3, h.o4.drewN n, h.o5.drewN n, h.o6.drewN n, h.o7.drewN n⟩
theorem PN.drew (h : PN w p b cap ad tcap k r1 r2 rv rs ss st e a1 a2 a3 a4 a5 a6 a7 x4 x5 x6 x7) : PN w.drew p b cap ad tcap k r1 r2 rv rs ss st e a1 a2 a3 a4 a5 a6 a7 x4 x5 x6 x7 :=
  ⟨h.wd, h.rn, h.sa, h.c1, h.c2, h.c3, h.o4.drew, h.o5.drew, h.o6.drew, h.o7.drew⟩
theorem PN.set45 (h : PN w p b cap ad tcap k r1 r2 rv rs ss st e a1 a2 a3 a4 a5 a6 a7 x4 x5 x6 x7) (y4 y5 : Value)
    (hd : ∀ b o q, ad = some ⟨b, o, q⟩ → b ≠ a4 ∧ b ≠ a5) (hp : p ≠ a4 ∧ p ≠ a5) (hb : b ≠ a4 ∧ b ≠ a5) (h1 : a1 ≠ a4 ∧ a1 ≠ a5) (h2 : a2 ≠ a4 ∧ a2 ≠ a5) (h3 : a3 ≠ a4 ∧ a3 ≠ a5) (h45 : a4 ≠ a5) (h6 : a6 ≠ a4 ∧ a6 ≠ a5) (h7 : a7 ≠ a4 ∧ a7 ≠ a5) :
    PN ((w.setCell ⟨a4, 0, none⟩ y4).setCell ⟨a5, 0, none⟩ y5) p b cap ad tcap k r1 r2 rv rs ss st e a1 a2 a3 a4 a5 a6 a7 y4 y5 x6 x7 :=
  ⟨(h.wd.other hp.1 _).other hp.2 _, (h.rn.other hb.1 _).other hb.2 _, (h.sa.other (fun b o q hq => (hd b o q hq).1) _).other (fun b o q hq => (hd b o q hq).2) _,
    cell_other h1.2 (cell_other h1.1 h.c1), cell_other h2.2 (cell_other h2.1 h.c2), cell_other h3.2 (cell_other h3.1 h.c3), (h.o4.set _).other h45 _, (h.o5.other (Ne.symm h45) _).set _, (h.o6.other h6.1 _).other h6.2 _, (h.o7.other h7.1 _).other h7.2 _⟩
end

set_option maxHeartbeats 4000000 in
theorem in_closure (s : ByteArray) (rs : List Int) (hrs : Runes s rs) (r1 r2 rv : Int) (hn : rs.length ≤ 2147483647) (st e : Nat) (hse : st ≤ e) (hen : e ≤ rs.length) (a0 a1 a2 a3 a4 a5 a6 a7 : Nat) (ad : Option Addr) (tcap : Nat) (ss : List ByteArray) (hss : ss.length ≤ 2147483647) (hst : ∀ t ∈ ss, t.size ≤ 2147483647)
    (h0 : 0 < ss.length) (w : World)
    (hs : RowAt w a0 #[.string s, .int .i64 r1, .int .i64 r2, .int .i64 rv]) (ht : StrsAt w ad ss) (h1 : w.cell? ⟨a1, 0, none⟩ = some (.int .i64 st)) (h2 : w.cell? ⟨a2, 0, none⟩ = some (.int .i64 e)) (h3 : w.cell? ⟨a3, 0, none⟩ = some (.slice ad ss.length tcap))
    (x4 x5 x6 x7 : Value) (o4 : One w a4 x4) (o5 : One w a5 x5) (o6 : One w a6 x6) (o7 : One w a7 x7)
    (hd : ∀ b o q, ad = some ⟨b, o, q⟩ → b ≠ a4 ∧ b ≠ a5) (n1 : a1 ≠ a4 ∧ a1 ≠ a5) (n2 : a2 ≠ a4 ∧ a2 ≠ a5) (n3 : a3 ≠ a4 ∧ a3 ≠ a5) (n45 : a4 ≠ a5) (n6 : a6 ≠ a4 ∧ a6 ≠ a5) (n7 : a7 ≠ a4 ∧ a7 ≠ a5) (n67 : a6 ≠ a7) (n1' : a1 ≠ a6 ∧ a1 ≠ a7) (n2' : a2 ≠ a6 ∧ a2 ≠ a7) :
    Calls Try.prog 40 #[.pointer (some ⟨a0, 0, none⟩), .pointer (some ⟨a1, 0, none⟩), .pointer (some ⟨a2, 0, none⟩), .pointer (some ⟨a3, 0, none⟩), .pointer (some ⟨a4, 0, none⟩), .pointer (some ⟨a5, 0, none⟩), .pointer (some ⟨a6, 0, none⟩), .pointer (some ⟨a7, 0, none⟩)] w fun x w' =>
      x = .returned (.tuple #[]) ∧ One w' a4 (.string (firstEnd (partOf rs st e) ss)) ∧ One w' a5 (.string (firstIf (partOf rs 0 e) st e ss)) ∧ One w' a6 (.bool (decide (runesOf (ss.getD 0 ByteArray.empty) <:+ rs))) ∧ One w' a7 (.bool (decide (runesOf (ss.getD 0 ByteArray.empty) <:+ partOf rs st e))) ∧
      w.heap.size ≤ w'.heap.size ∧ (∀ k, k < w.heap.size → k ≠ a4 → k ≠ a5 → k ≠ a6 → k ≠ a7 → w'.heap[k]? = w.heap[k]?) ∧ w'.os = w.os ∧ w'.tape = w.tape ∧ w'.output = w.output := by
  have e0 : w.cell? ⟨a0, 0, none⟩ = some (.string s) := hs 0 _ rfl
  have e1 : w.cell? ⟨a0, 1, none⟩ = some (.int .i64 r1) := hs 1 _ rfl
  have e2 : w.cell? ⟨a0, 2, none⟩ = some (.int .i64 r2) := hs 2 _ rfl
  have e3 : w.cell? ⟨a0, 3, none⟩ = some (.int .i64 rv) := hs 3 _ rfl
  clear hs
  have l4 := o4.lt
  have l5 := o5.lt
  have l6 := o6.lt
  have l7 := o7.lt
  have F1 := Lib.hid (fun p b cap w => first_in p b cap ad tcap r1 r2 rv rs ss st e hse hen hn hss hst w)
  have F2 := Lib.hid (fun p b cap w => first_if_in p b cap ad tcap r1 r2 rv rs ss st e hen hn hss hst w)
  have hmem : ss.getD 0 ByteArray.empty ∈ ss := by
    simp only [List.getD, List.getElem?_eq_getElem h0, Option.getD_some]; exact List.getElem_mem _
  have ht0 := hst _ hmem
  obtain ⟨t, ht'⟩ : ∃ t, ss.getD 0 ByteArray.empty = t := ⟨_, rfl⟩
  rw [ht'] at ht0 ⊢
  have hcr := runes_of t (by omega)
  have hcl := runesOf_small t ht0
  generalize runesOf t = ct at *
  obtain ⟨t1, ht1⟩ : ∃ t, firstEnd (partOf rs st e) ss = t := ⟨_, rfl⟩
  obtain ⟨t2, ht2⟩ : ∃ t, firstIf (partOf rs 0 e) st e ss = t := ⟨_, rfl⟩
  rw [ht1] at F1 ⊢
  rw [ht2] at F2 ⊢
  obtain ⟨d1, hd1⟩ : ∃ d, decide (ct <:+ rs) = d := ⟨_, rfl⟩
  obtain ⟨d2, hd2⟩ : ∃ d, decide (ct <:+ partOf rs st e) = d := ⟨_, rfl⟩
  rw [hd1, hd2]
  have F3 := Lib.hid (fun p b cap c ccap w => has_suffix p b cap c ccap r1 r2 rv rs ct hn hcl w)
  have F4 := Lib.hid (fun p b cap c ccap w => has_in p b cap c ccap r1 r2 rv rs ct st e hse hen hn hcl w)
  rw [hd1] at F3
  rw [hd2] at F4
  have HC := Lib.hid (And.intro hcr hcl)
  obtain ⟨bt, ot, had, hq⟩ := ht 0 h0
  rw [ht', Nat.add_zero] at hq
  have H0 := Lib.hid ht'
  have HA := Lib.hid had
  have HL := Lib.hid h0
  have HD := Lib.hid hd
  obtain ⟨k, hk⟩ : ∃ k, ss.length = k := ⟨_, rfl⟩
  have hk0 : 0 < k := by omega
  rw [hk] at h3 F1 F2
  have O := Lib.hid (And.intro ht (And.intro h1 (And.intro h2 (And.intro h3 (And.intro o4 (And.intro o5 (And.intro o6 o7)))))))
  clear ht h1 h2 h3 o4 o5 o6 o7 ht1 ht2 hss hk hd1 hd2 hcr hcl hd h0 ht' hmem ht0 hq hst had
  go_enter Try.func40, Try.ntmps40
  go_wp2_with fail
  refine (word_of s rs hrs r1 r2 rv w).mono ?_
  rintro x w1 ⟨p, b, cap, rfl, hw, hr, hcap, hmax, hpb, hp, hb, hb1⟩
  obtain ⟨ht, h1, h2, h3, o4, o5, o6, o7⟩ := O.out
  have B0 := (⟨hw, hr, ht.below hb1, belowRow hb1 h1, belowRow hb1 h2, belowRow hb1 h3, o4.below hb1, o5.below hb1, o6.below hb1, o7.below hb1⟩ : PN w1 p b cap ad tcap k r1 r2 rv rs ss st e a1 a2 a3 a4 a5 a6 a7 x4 x5 x6 x7).drew
  have HB := Lib.hid hb1
  have hsz := hb1.size
  clear e0 e1 e2 e3 hw hr hb1 ht h1 h2 h3 o4 o5 o6 o7 O
  go_upto_region 1 with fail
  go_cut [12] (fun v12 wx => PN wx p b cap ad tcap k r1 r2 rv rs ss st e a1 a2 a3 a4 a5 a6 a7 (.string t1) (.string t2) x6 x7 ∧ w.heap.size ≤ wx.heap.size ∧ (∀ k, k < w.heap.size → k ≠ a4 → k ≠ a5 → wx.heap[k]? = w.heap[k]?) ∧ wx.os = w.os ∧ wx.tape = w.tape ∧ wx.output = w.output)
  case first =>
   go_region_held3 (fun w' => w'.cell? ⟨a1, 0, none⟩ = some (.int .i64 st) ∧ w'.cell? ⟨a2, 0, none⟩ = some (.int .i64 e) ∧ w'.cell? ⟨a3, 0, none⟩ = some (.slice ad k tcap))
    (first | exact ⟨cell_other n1.2 (cell_other n1.1 B2.c1), cell_other n2.2 (cell_other n2.1 B2.c2), cell_other n3.2 (cell_other n3.1 B2.c3)⟩ | exact ⟨cell_other n1.1 B2.c1, cell_other n2.1 B2.c2, cell_other n3.1 B2.c3⟩ | exact ⟨B2.c1, B2.c2, B2.c3⟩ | exact ⟨BP.c1, BP.c2, BP.c3⟩ | exact ⟨BS.c1, BS.c2, BS.c3⟩ | exact ⟨B0.c1, B0.c2, B0.c3⟩)
    (first
      | (go_at_call 41; refine (F1.out p b cap _ (by exact BS.wd) (by exact BS.rn) (by exact BS.sa)).mono ?_; rintro x wM ⟨rfl, hbM⟩; have B2 := pnBelow hbM BS; have hBB := hbS.trans (hbM.mono hbS.size); have k4 := B2.o4.cell; have f4 := B2.o4.free; have k5 := B2.o5.cell; have f5 := B2.o5.free)
      | (go_at_call 41; refine (F1.out p b cap _ (by exact B0.wd) (by exact B0.rn) (by exact B0.sa)).mono ?_; rintro x wP ⟨rfl, hbP⟩; have BP := pnBelow hbP B0)
      | (go_at_call 42; refine (F2.out p b cap _ (by exact BP.wd) (by exact BP.rn) (by exact BP.sa)).mono ?_; rintro x wM ⟨rfl, hbM⟩; have B2 := pnBelow hbM BP; have hBB := hbP.trans (hbM.mono hbP.size); have k4 := B2.o4.cell; have f4 := B2.o4.free; have k5 := B2.o5.cell; have f5 := B2.o5.free)
      | (go_at_call 42; refine (F2.out p b cap _ (by exact B0.wd) (by exact B0.rn) (by exact B0.sa)).mono ?_; rintro x wS ⟨rfl, hbS⟩; have BS := pnBelow hbS B0))
   all_goals go_wp2_with fail
   all_goals go_meet
   all_goals
     have HB3 := (below_drewN HB.out 1).trans (hBB.mono hsz)
     refine ⟨B2.set45 _ _ HD.out ⟨by omega, by omega⟩ ⟨by omega, by omega⟩ n1 n2 n3 n45 n6 n7, ?_, ?_, HB3.os, HB3.tape, HB3.output⟩
     · have hz : ((wM.setCell ⟨a4, 0, none⟩ (.string t1)).setCell ⟨a5, 0, none⟩ (.string t2)).heap.size = wM.heap.size := by simp [World.setCell]
       rw [hz]; exact HB3.size
     · intro k hk q4 q5
       rw [Below.heap_setCell _ _ _ _ (by simpa using q5), Below.heap_setCell _ _ _ _ (by simpa using q4)]
       exact HB3.block k hk
  case rest =>
    obtain ⟨g, gs, gh, go⟩ := hcut
    have c3 := g.c3
    have hq : wc.cell? ⟨bt, ot, none⟩ = some (.string t) := by
      obtain ⟨b', o', h1, h2⟩ := g.sa 0 HL.out
      rw [HA.out] at h1
      injection h1 with h1
      injection h1 with h3 h4
      subst h3 h4
      rw [H0.out] at h2
      exact h2
    rw [HA.out] at c3
    obtain ⟨ccap, W, hcv, hz, hbW, hc, hcc1, hcc2⟩ := conv_runes t ct HC.out.1 wc
    have g' := pnBelow hbW g
    have hkd : decide (0 < k) = true := by rw [decide_eq_true_eq]; exact hk0
    have hkd' : decide ((0 : Int) < (k : Int)) = true := by rw [decide_eq_true_eq]; omega
    have l3 : a3 < wc.heap.size := World.block_lt_of_cell? wc _ c3
    have G := Lib.hid (And.intro g' (And.intro hc (And.intro hbW (And.intro gs (And.intro gh go)))))
    have c1' : W.cell? ⟨a1, 0, none⟩ = some (.int .i64 st) := g'.c1
    have c2' : W.cell? ⟨a2, 0, none⟩ = some (.int .i64 e) := g'.c2
    have k6 : W.cell? ⟨a6, 0, none⟩ = some x6 := g'.o6.cell
    have f6 : W.frozen? ⟨a6, 0, none⟩ = false := g'.o6.free
    have k7 : W.cell? ⟨a7, 0, none⟩ = some x7 := g'.o7.cell
    have f7 : W.frozen? ⟨a7, 0, none⟩ = false := g'.o7.free
    clear g gs gh go g' hc hbW hcc1 hcc2 hz B0 HB F1 F2
    generalize hcs : wc.heap.size = c at *
    generalize hcl : ct.length = cl at *
    go_wp2_with fail
    have G1 : W.drew.cell? ⟨a1, 0, none⟩ = some (.int .i64 st) := c1'
    have G2 : W.drew.cell? ⟨a2, 0, none⟩ = some (.int .i64 e) := c2'
    go_region_held3 (fun w' => w'.cell? ⟨a1, 0, none⟩ = some (.int .i64 st) ∧ w'.cell? ⟨a2, 0, none⟩ = some (.int .i64 e))
      (first | exact ⟨cell_other n1'.2 (cell_other n1'.1 G1), cell_other n2'.2 (cell_other n2'.1 G2)⟩ | exact ⟨cell_other n1'.1 G1, cell_other n2'.1 G2⟩ | exact ⟨G1, G2⟩)
      (first
        | (go_at_call 43; refine (F3.out p b cap c ccap _ (by exact G.out.1.wd) (by exact G.out.1.rn) (by exact G.out.2.1)).mono ?_; rintro x wP ⟨rfl, e1, rfl⟩)
        | (go_at_call 44; refine (F4.out p b cap c ccap _ (by exact G.out.1.wd) (by exact G.out.1.rn) (by exact G.out.2.1)).mono ?_; rintro x wQ ⟨rfl, e2, rfl⟩))
    obtain ⟨P, _, hbW, gs, gh, go⟩ := G.out
    have hWs := hbW.size
    go_end0
    refine ⟨rfl, ((P.o4.drewN _).other (Ne.symm n6.1) _).other (Ne.symm n7.1) _, ((P.o5.drewN _).other (Ne.symm n6.2) _).other (Ne.symm n7.2) _, ((P.o6.drewN _).set _).other n67 _, ((P.o7.drewN _).other (Ne.symm n67) _).set _, ?_, ?_, hbW.os.trans go.1, hbW.tape.trans go.2.1, hbW.output.trans go.2.2⟩
    · have hz : (((W.drewN (1 + e1 + e2)).setCell ⟨a6, 0, none⟩ (.bool d1)).setCell ⟨a7, 0, none⟩ (.bool d2)).heap.size = W.heap.size := by simp [World.setCell]
      rw [hz]; omega
    · intro k hk q4 q5 q6 q7
      rw [Below.heap_setCell _ _ _ _ (by simpa using q7), Below.heap_setCell _ _ _ _ (by simpa using q6)]
      exact (hbW.block k (by omega)).trans (gh k hk q4 q5)

theorem enter_in (cap : Array Value) (w : World) : (callFunc 40 cap).run Try.prog w = .ok (.enter 40 cap) w := by kernel_rfl
def inBlocks (s : ByteArray) (r1 r2 rv st e : Int) (v : Value) : List Obj := [.cells #[.string s, .int .i64 r1, .int .i64 r2, .int .i64 rv] 27, .cells #[.int .i64 st] 3, .cells #[.int .i64 e] 3, .cells #[v] 30, .cells #[.string ⟨#[]⟩] 9, .cells #[.string ⟨#[]⟩] 9, .cells #[.bool false] 4, .cells #[.bool false] 4]

set_option maxHeartbeats 4000000 in
theorem snow_in (s : ByteArray) (rs : List Int) (hrs : Runes s rs) (r1 r2 rv : Int) (hn : rs.length ≤ 2147483647) (st e : Nat) (hse : st ≤ e) (hen : e ≤ rs.length) (ad : Option Addr) (tcap k : Nat) (ss : List ByteArray) (hk : ss.length = k) (hss : ss.length ≤ 2147483647) (hst : ∀ t ∈ ss, t.size ≤ 2147483647) (h0 : 0 < ss.length)
    (t1 t2 : ByteArray) (ht1 : firstEnd (partOf rs st e) ss = t1) (ht2 : firstIf (partOf rs 0 e) st e ss = t2) (d1 d2 : Bool) (hd1 : decide (runesOf (ss.getD 0 ByteArray.empty) <:+ rs) = d1) (hd2 : decide (runesOf (ss.getD 0 ByteArray.empty) <:+ partOf rs st e) = d2) (w : World) (ht : StrsAt w ad ss) :
    Calls Try.prog 19 #[snowV s r1 r2 rv, .int .i64 st, .int .i64 e, .slice ad k tcap] w fun e w' => e = .returned (.tuple #[.string t1, .string t2, .bool d1, .bool d2]) ∧ Below w.heap.size w w' := by
  have hmf : ∀ (fn : Fn) (first cap : Array Value) (w : World), (Instr.makeFunc fn first cap).run Try.prog w = .ok (.func fn first cap) w := fun _ _ _ _ => rfl
  have F := Lib.hid (fun a0 a1 a2 a3 a4 a5 a6 a7 w => in_closure s rs hrs r1 r2 rv hn st e hse hen a0 a1 a2 a3 a4 a5 a6 a7 ad tcap ss hss hst h0 w)
  rw [ht1, ht2, hd1, hd2, hk] at F
  have HT := Lib.hid ht
  have HD : Hid (∀ b o q, ad = some ⟨b, o, q⟩ → b < w.heap.size) := Lib.hid (fun b o q hq => by
    obtain ⟨b', o', h1, h2⟩ := ht 0 h0
    rw [hq] at h1
    injection h1 with h1
    injection h1 with h3 h4
    subst h3
    exact World.block_lt_of_cell? w _ h2)
  clear ht ht1 ht2 hd1 hd2 hss hk h0 hst
  unfold snowV
  go_enter Try.func19, Try.ntmps19
  go_wp2_with fail
  obtain ⟨v, hv⟩ : ∃ v, Value.slice ad k tcap = v := ⟨_, rfl⟩
  rw [hv] at F ⊢
  change Calls _ _ _ (allocs w (inBlocks s r1 r2 rv st e v)) _
  have r0 : RowAt (allocs w (inBlocks s r1 r2 rv st e v)) w.heap.size #[.string s, .int .i64 r1, .int .i64 r2, .int .i64 rv] := allocs_row (i := 0) rfl rfl
  have o1 : One (allocs w (inBlocks s r1 r2 rv st e v)) (w.heap.size + 1) (.int .i64 st) := allocs_one (i := 1) rfl rfl
  have o2 : One (allocs w (inBlocks s r1 r2 rv st e v)) (w.heap.size + 2) (.int .i64 e) := allocs_one (i := 2) rfl rfl
  have o3 : One (allocs w (inBlocks s r1 r2 rv st e v)) (w.heap.size + 3) v := allocs_one (i := 3) rfl rfl
  have o4 : One (allocs w (inBlocks s r1 r2 rv st e v)) (w.heap.size + 4) (.string ⟨#[]⟩) := allocs_one (i := 4) rfl rfl
  have o5 : One (allocs w (inBlocks s r1 r2 rv st e v)) (w.heap.size + 5) (.string ⟨#[]⟩) := allocs_one (i := 5) rfl rfl
  have o6 : One (allocs w (inBlocks s r1 r2 rv st e v)) (w.heap.size + 6) (.bool false) := allocs_one (i := 6) rfl rfl
  have o7 : One (allocs w (inBlocks s r1 r2 rv st e v)) (w.heap.size + 7) (.bool false) := allocs_one (i := 7) rfl rfl
  have hb8 : Below w.heap.size w (allocs w (inBlocks s r1 r2 rv st e v)) := allocs_below _ w _ (Nat.le_refl _)
  have hz : (allocs w (inBlocks s r1 r2 rv st e v)).heap.size = w.heap.size + 8 := allocs_size _ _
  have HT8 := Lib.hid (HT.out.below hb8)
  generalize allocs w (inBlocks s r1 r2 rv st e v) = W at *
  refine (safe_any 40 _ W (fun wx => One wx (w.heap.size + 4) (.string t1) ∧ One wx (w.heap.size + 5) (.string t2) ∧ One wx (w.heap.size + 6) (.bool d1) ∧ One wx (w.heap.size + 7) (.bool d2) ∧ Below w.heap.size w wx ∧ W.heap.size < wx.heap.size) (fun w => enter_in _ w) ?_).mono ?_
  · have hb5 : Below W.heap.size W (W.alloc (.cells #[.bool false] 4)) := (Below.refl _ _).alloc (Nat.le_refl _) _
    have hz' : (W.alloc (.cells #[.bool false] 4)).heap.size = w.heap.size + 9 := by simp; omega
    have hok : (W.alloc (.cells #[.bool false] 4)).heap[W.heap.size]? = some (.cells #[.bool false] 4) := heap_alloc_new _ _
    have hb9 := hb8.alloc (by omega) (.cells #[.bool false] 4)
    refine (F.out w.heap.size (w.heap.size + 1) (w.heap.size + 2) (w.heap.size + 3) (w.heap.size + 4) (w.heap.size + 5) (w.heap.size + 6) (w.heap.size + 7) _ (r0.below hb5) (HT8.out.below hb5) (o1.below hb5).cell (o2.below hb5).cell (o3.below hb5).cell _ _ _ _ (o4.below hb5) (o5.below hb5) (o6.below hb5) (o7.below hb5)
      (fun b o q hq => by have := HD.out b o q hq; omega) (by omega) (by omega) (by omega) (by omega) (by omega) (by omega) (by omega) (by omega) (by omega)).mono ?_
    rintro e wx ⟨rfl, p1, p2, p3, p4, hs, hh, ho⟩
    refine ⟨rfl, ⟨p1, p2, p3, p4, ⟨ho.1.trans hb9.os, ho.2.1.trans hb9.tape, ho.2.2.trans hb9.output, by omega, fun k hk => by rw [hh k (by omega) (by omega) (by omega) (by omega) (by omega)]; exact hb9.block k hk⟩, by omega⟩, ?_⟩
    rw [hh W.heap.size (by omega) (by omega) (by omega) (by omega) (by omega)]; exact hok
  · rintro e w' ⟨rfl, wx, ⟨p1, p2, p3, p4, hbx, hlt⟩, hh, rfl⟩
    have s1 := (p1.other (c := W.heap.size) (j := 0) (by omega) (.bool true)).other (c := W.heap.size) (j := 0) (by omega) (.bool true)
    have s2 := (p2.other (c := W.heap.size) (j := 0) (by omega) (.bool true)).other (c := W.heap.size) (j := 0) (by omega) (.bool true)
    have s3 := (p3.other (c := W.heap.size) (j := 0) (by omega) (.bool true)).other (c := W.heap.size) (j := 0) (by omega) (.bool true)
    have s4 := (p4.other (c := W.heap.size) (j := 0) (by omega) (.bool true)).other (c := W.heap.size) (j := 0) (by omega) (.bool true)
    have hb7 := (hbx.setCell (p := ⟨W.heap.size, 0, none⟩) (by simp; omega) (.bool true)).setCell (p := ⟨W.heap.size, 0, none⟩) (by simp; omega) (.bool true)
    generalize (wx.setCell ⟨W.heap.size, 0, none⟩ (.bool true)).setCell ⟨W.heap.size, 0, none⟩ (.bool true) = W5 at *
    obtain ⟨A4, hA4⟩ : ∃ a, w.heap.size + 1 + 1 + 1 + 1 = a := ⟨_, rfl⟩
    obtain ⟨A5, hA5⟩ : ∃ a, w.heap.size + 1 + 1 + 1 + 1 + 1 = a := ⟨_, rfl⟩
    obtain ⟨A6, hA6⟩ : ∃ a, w.heap.size + 1 + 1 + 1 + 1 + 1 + 1 = a := ⟨_, rfl⟩
    obtain ⟨A7, hA7⟩ : ∃ a, w.heap.size + 1 + 1 + 1 + 1 + 1 + 1 + 1 = a := ⟨_, rfl⟩
    have s1' : One W5 A4 (.string t1) := hA4 ▸ s1
    have s2' : One W5 A5 (.string t2) := hA5 ▸ s2
    have s3' : One W5 A6 (.bool d1) := hA6 ▸ s3
    have s4' : One W5 A7 (.bool d2) := hA7 ▸ s4
    rw [hA7, hA6, hA5, hA4]
    have c4 := s1'.cell
    have c5 := s2'.cell
    have c6 := s3'.cell
    have c7 := s4'.cell
    have f4 := s1'.free
    have f5 := s2'.free
    have f6 := s3'.free
    have f7 := s4'.free
    have HB := Lib.hid hb7
    clear s1 s2 s3 s4 s1' s2' s3' s4' p1 p2 p3 p4 hbx hlt hh hb7 hb8 hz r0 o1 o2 o3 o4 o5 o6 o7 hmf F hrs hn HT HT8 HD
    go_wp2_with fail
    have e4 : W5.drew.setCell ⟨A4, 0, none⟩ (.string t1) = W5.drew := setCell_id c4
    have e5 : W5.drew.setCell ⟨A5, 0, none⟩ (.string t2) = W5.drew := setCell_id c5
    have e6 : W5.drew.setCell ⟨A6, 0, none⟩ (.bool d1) = W5.drew := setCell_id c6
    have e7 : W5.drew.setCell ⟨A7, 0, none⟩ (.bool d2) = W5.drew := setCell_id c7
    go_region_held3 (fun w' => w'.cell? ⟨A4, 0, none⟩ = some (.string t1) ∧ w'.cell? ⟨A5, 0, none⟩ = some (.string t2) ∧ w'.cell? ⟨A6, 0, none⟩ = some (.bool d1) ∧ w'.cell? ⟨A7, 0, none⟩ = some (.bool d2)) (first | (simp only [e4, e5, e6, e7]; exact ⟨c4, c5, c6, c7⟩) | exact ⟨c4, c5, c6, c7⟩) (first | fail)
    all_goals
      have g4 : W5.drew.cell? ⟨A4, 0, none⟩ = some (.string t1) := c4
      have g5 : W5.drew.cell? ⟨A5, 0, none⟩ = some (.string t2) := c5
      have g6 : W5.drew.cell? ⟨A6, 0, none⟩ = some (.bool d1) := c6
      have g7 : W5.drew.cell? ⟨A7, 0, none⟩ = some (.bool d2) := c7
      have HB6 : Below w.heap.size w W5.drew := below_drewN HB.out 1
      have HB7 := Lib.hid HB6
      clear HB6 HB e4 e5 e6 e7 c4 c5 c6 c7 f4 f5 f6 f7 hA4 hA5 hA6 hA7
      generalize W5.drew = W6 at *
      go_wp2
      exact bodyPost_ret (v := .tuple #[.string t1, .string t2, .bool d1, .bool d2]) (by simp [results, Try.results19, go_sem, g4, g5, g6, g7]) rfl ⟨rfl, HB7.out⟩
end Go.Proofs.Ytaohmmpfiehniaa
