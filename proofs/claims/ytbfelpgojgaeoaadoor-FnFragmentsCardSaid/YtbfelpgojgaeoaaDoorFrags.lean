/- The closure of impl.Fragments (printed by gen_fr.py), and impl.Fragments. -/
import Derived.Test.YtbfelpgojgaeoaaDoorFragWalk
import Derived.Test.YtbfelpgojgaeoaaDoorOut
import Derived.Test.YtbfelpgojgaeoaaDoorFragText
import Derived.Deep.DeepCutAuto
import Derived.Deep.CutBlock
import Derived.Deep.LoopGhost
import Derived.StillTailTactics
set_option linter.unusedVariables false
set_option linter.unusedSimpArgs false
namespace Go.Proofs.YtbfelpgojgaeoaaDoor
open Go Go.RowKit

/-- Where the terms' locations lie, or none. -/
def LocV (w : World) (m : Nat) (rs : List Nat) (st en : Nat → Nat) (V : Value) : Prop :=
  (m = 0 ∧ V = .slice none 0 0) ∨ (0 < m ∧ ∃ lb lc ps, V = .slice (some ⟨lb, 0, none⟩) m lc ∧ m ≤ lc ∧ Locs w lb m ps rs st en)
theorem LocV.below {w w1 : World} {m : Nat} {rs : List Nat} {st en : Nat → Nat} {V : Value} (h : LocV w m rs st en V) (hb : Below w.heap.size w w1) : LocV w1 m rs st en V := by
  rcases h with h | ⟨h0, lb, lc, ps, h1, h2, h3⟩
  · exact .inl h
  · exact .inr ⟨h0, lb, lc, ps, h1, h2, h3.below hb⟩

theorem loc_any (rs : List Nat) (b o cap m : Nat) (ad : Option Addr) (xs : List (Int × Int)) (st en : Nat → Nat) (hn : xs.length = m) (had : m = 0 ∨ ad = some ⟨b, o, none⟩) (hm : m ≤ 1000) (hcap : m ≤ cap)
    (hx : ∀ i (h : i < xs.length), xs[i] = ((off rs (st i) : Int), (off rs (en i) : Int)) ∧ off rs (st i) ≤ off rs (en i) ∧ off rs (en i) ≤ 2147483647) (w : World) (hp : PairsAt w b o xs) :
    Calls Tryd.prog 15 #[.slice ad m cap] w fun e w' => ∃ V, e = .returned V ∧ LocV w' m rs st en V ∧ Below w.heap.size w w' := by
  refine (locations b o cap m ad xs hn had hm hcap ?_ ?_ w hp).mono ?_
  · intro i h
    obtain ⟨h1, h2, _⟩ := hx i h
    rw [h1]
    show (off rs (st i) : Int) ≤ (off rs (en i) : Int)
    omega
  · intro x h
    obtain ⟨i, hi, rfl⟩ := List.mem_iff_getElem.1 h
    obtain ⟨h1, h2, h3⟩ := hx i hi
    rw [h1]
    unfold InI64
    exact ⟨⟨by show _ ≤ (off rs (st i) : Int); omega, by show (off rs (st i) : Int) ≤ _; omega⟩, ⟨by show _ ≤ (off rs (en i) : Int); omega, by show (off rs (en i) : Int) ≤ _; omega⟩⟩
  · rintro e w' ⟨V, fs, rfl, hP, hl, hnil, hf⟩
    refine ⟨V, rfl, ?_, hP.bel⟩
    rcases hP.shape with ⟨h0, hV⟩ | ⟨g, gc, hV⟩
    · exact .inl ⟨by omega, hV⟩
    · by_cases h0 : m = 0
      · exact .inl ⟨h0, hnil h0⟩
      · refine .inr ⟨by omega, g, gc, fun i => (fs.getD i (0, #[])).1, by rw [hV, hl], ?_, ?_, ?_⟩
        · obtain ⟨_, ⟨hz, _⟩ | ⟨g', cap', cur, he, hB, hh, hc1, hc2, hc3, hc4⟩⟩ := hP.own
          · rw [hV] at hz; cases hz
          · rw [hV] at he; injection he with e1 e2 e3; omega
        · intro i hi
          have hif : i < fs.length := by omega
          rw [hP.cell hV hif]
          simp [ptrTo, List.getD, hif]
        · intro i hi
          have hif : i < fs.length := by omega
          obtain ⟨y, hy, hc⟩ := hf i _ (List.getElem?_eq_getElem hif)
          have hr := (hP.row _ (List.getElem_mem hif)).1
          rw [hc] at hr
          have hix : i < xs.length := by omega
          rw [List.getElem?_eq_getElem hix] at hy
          have hy := Option.some.inj hy
          rw [(hx i hix).1] at hy
          rw [← hy] at hr
          have e1 : (fs.getD i (0, #[])).1 = fs[i].1 := by simp [List.getD, hif]
          show RowAt w' (fs.getD i (0, #[])).1 _
          rw [e1]
          exact hr

/-- The fragments behind a slice. -/
def FragsAt (w : World) (g b n cap : Nat) (rs : List Nat) (fs : List (Nat × Nat × Nat)) : Prop :=
  ∀ i (h : i < fs.length), w.cell? ⟨g, i, none⟩ = some (ptrOf fs[i]) ∧ RowAt w fs[i].1 (fragCells b n cap (off rs fs[i].2.1) (off rs fs[i].2.2))
/-- What is asked of them. -/
structure Fine (size m n : Nat) (st en : Nat → Nat) (fs : List (Nat × Nat × Nat)) : Prop where
  len : fs.length = max m 1
  good : ∀ i x, fs[i]? = some x → i < m → Good size n (st i) (en i) x.2.1 x.2.2
  none : m = 0 → ∀ x ∈ fs, x.2.1 = 0 ∧ x.2.2 = min size n

theorem fragment_any (s : ByteArray) (rs : List Nat) (h : Txt s rs) (hn : 65533 ∉ rs) (size m : Nat) (st en : Nat → Nat) (hsz : s.size ≤ 2147483647) (hsize : size ≤ 2147483647) (hm2 : m ≤ 1000) (O : InOrder m rs.length st en)
    (fb b cap : Nat) (V : Value) (hcap : s.size ≤ cap) (w : World) (I : Inp w b s) (hf : w.cell? ⟨fb, 0, none⟩ = some (.int .i64 size)) (L : LocV w m rs st en V) :
    Calls Tryd.prog 14 #[.pointer (some ⟨fb, 0, none⟩), .slice (some ⟨b, 0, none⟩) s.size cap, V] w fun e w' =>
      ∃ g gc fs, e = .returned (.slice (some ⟨g, 0, none⟩) (List.length fs) gc) ∧ FragsAt w' g b s.size cap rs fs ∧ Fine size m rs.length st en fs ∧ Below w.heap.size w w' := by
  rcases L with ⟨h0, rfl⟩ | ⟨h0, lb, lc, ps, rfl, hlc, L⟩
  · refine (fragment_none s rs h hn fb b cap size hcap hsz hsize w I hf).mono ?_
    rintro e w' ⟨g, gc, f, rfl, hc, hr, hb⟩
    refine ⟨g, gc, [(f, 0, min size rs.length)], rfl, ?_, ⟨by simp [h0], fun i x hx hi => by omega, fun _ x hx => by rw [List.mem_singleton.1 hx]; exact ⟨rfl, rfl⟩⟩, hb⟩
    intro i hi
    have : i = 0 := by simpa using hi
    subst this
    exact ⟨hc, hr⟩
  · refine (fragment_some s rs h hn fb b cap size lb m lc ps st en hcap hsz hsize h0 hm2 hlc w I hf L O).mono ?_
    rintro e w' ⟨v, fs, rfl, hR, hl, hg⟩
    obtain ⟨_, ⟨hz, hl0⟩ | ⟨g', cap', cur, he, hB, _⟩⟩ := id hR.own
    · omega
    · refine ⟨g', cap', fs, by rw [he], ?_, ⟨by omega, fun i x hx _ => hg i x hx, fun h => by omega⟩, hR.bel⟩
      intro i hi
      have hown := hR.own
      rw [he] at hown
      have hc := hown.cellAt i (by omega)
      rw [List.getElem?_map, List.getElem?_eq_getElem hi] at hc
      exact ⟨hc, (hR.row _ (List.getElem_mem hi)).1⟩

theorem conv_inp (w : World) (s : ByteArray) (hT : Lib.Utf8Tabs 0 1 w) : Inp (Go.Lib.bytesWorld w 5 s) w.heap.size s := by
  refine ⟨tabsBelow (bytesBelow w 5 s _ (Nat.le_refl _)) hT, fun j hj => ?_⟩
  rw [Go.Lib.bytesWorld_cell w 5 s j hj, Go.Lib.getD_get!]

def prOf (rs : List Nat) (x : Nat × Nat × Nat) : Int × Int := ((off rs x.2.1 : Int), (off rs x.2.2 : Int))
theorem info_arr : ∃ i z, Tryd.prog.info? 26 = some i ∧ i.zero = some z ∧ i.size = 2 ∧ i.bytes = 16 ∧ z.cells.size = 2 := by
  have h : (Tryd.prog.info? 26).map (fun i => (i.zero, i.size, i.bytes)) = some (some (.agg #[.int .i64 0, .int .i64 0]), 2, 16) := by kernel_rfl
  cases hi : Tryd.prog.info? 26 with
  | none => rw [hi] at h; cases h
  | some i =>
    rw [hi] at h
    have h := Option.some.inj h
    injection h with h1 h2
    injection h2 with h2 h3
    exact ⟨i, _, rfl, h1, h2, h3, rfl⟩

set_option maxRecDepth 100000 in
set_option maxHeartbeats 8000000 in
theorem frags_closure (s : ByteArray) (rs : List Nat) (h : Txt s rs) (hnr : 65533 ∉ rs) (size m : Nat) (st en : Nat → Nat) (hsz : s.size ≤ 2147483647) (hsize : size ≤ 2147483647) (hm2 : m ≤ 1000) (O : InOrder m rs.length st en)
    (a0 a1 a2 a3 b o cap : Nat) (ad : Option Addr) (xs : List (Int × Int)) (hxl : xs.length = m) (had : m = 0 ∨ ad = some ⟨b, o, none⟩) (hcap : m ≤ cap)
    (hx : ∀ i (h : i < xs.length), xs[i] = ((off rs (st i) : Int), (off rs (en i) : Int)) ∧ off rs (st i) ≤ off rs (en i) ∧ off rs (en i) ≤ 2147483647) (w : World) (hT : Lib.Utf8Tabs 0 1 w) (hp : PairsAt w b o xs)
    (c0 : w.cell? ⟨a0, 0, none⟩ = some (.int .i64 size)) (c1 : w.cell? ⟨a1, 0, none⟩ = some (.string s)) (c2 : w.cell? ⟨a2, 0, none⟩ = some (.slice ad m cap)) (o3 : One w a3 (.slice none 0 0)) :
    Calls Tryd.prog 12 #[.pointer (some ⟨a0, 0, none⟩), .pointer (some ⟨a1, 0, none⟩), .pointer (some ⟨a2, 0, none⟩), .pointer (some ⟨a3, 0, none⟩)] w fun e w' =>
      e = .returned (.tuple #[]) ∧ ∃ w1 v fs, Below w.heap.size w w1 ∧ OutW w1 a3 (List.map (prOf rs) fs) v w' ∧ Fine size m rs.length st en fs := by
  have hcv := fun w => Go.Lib.run_convert_string_bytes (P := Tryd.prog) w 9 42 5 s Tryd.underlying9 Tryd.underlying42 Tryd.underlying5
  have HS := Lib.hid (fun (W : World) (hb : Below w.heap.size w W) => (show W.cell? ⟨a0, 0, none⟩ = some (.int .i64 size) ∧ W.cell? ⟨a1, 0, none⟩ = some (.string s) ∧ W.cell? ⟨a2, 0, none⟩ = some (.slice ad m cap) from ⟨belowRow hb c0, belowRow hb c1, belowRow hb c2⟩))
  have HT := Lib.hid (fun (W : World) (hb : Below w.heap.size w W) => tabsBelow hb hT)
  have HO3 := Lib.hid o3
  have C13 := Lib.hid (fun W => new_fragmenter size W)
  have C15 := Lib.hid (fun (W : World) (hb : Below w.heap.size w W) => loc_any rs b o cap m ad xs st en hxl had hm2 hcap hx W (hp.below hb))
  have C14 := Lib.hid (fragment_any s rs h hnr size m st en hsz hsize hm2 O)
  have hcp := fun w => grownCap_ge w s.size 0 5
  have HCP := Lib.hid hcp
  have hsz' : s.size ≤ maxLen := by simp [maxLen]; omega
  have HCM := Lib.hid (fun w => grownCap_le_maxLen w s.size 0 5 hsz')
  have HD := Lib.hid (below_drewN (Below.refl w.heap.size w) 1)
  clear hcp hT hp O o3 hx had h hnr hxl hcap hsz'
  go_enter Tryd.func12, Tryd.ntmps12
  go_wp2_with fail
  go_upto_region 0 with fail
  go_cut [12, 13, 14] (fun s12 s13 s14 wx => ∃ g gc fs bb cp, s12 = .slice (some ⟨g, 0, none⟩) (List.length fs) gc ∧ s13 = .int .i64 (List.length fs) ∧ s14 = .int .i64 0 ∧ FragsAt wx g bb s.size cp rs fs ∧ Hid (Fine size m rs.length st en fs) ∧ Below w.heap.size w wx)
  case first =>
    refine wp_region_noPanic ?_
    refine wp_region_held_drew (S := (fun w' => w'.cell? ⟨a0, 0, none⟩ = some (.int .i64 size) ∧ w'.cell? ⟨a1, 0, none⟩ = some (.string s) ∧ w'.cell? ⟨a2, 0, none⟩ = some (.slice ad m cap))) (by kernel_rfl) (HS.out _ HD.out) (fun hHeld => ?_)
    refine wpAnyH_take (i := 0) (oi := _) (v := .int .i64 size) rfl (by kernel_rfl) (by kernel_rfl) (by kernel_rfl) (fun _ _ _ h => h) (Or.inl ⟨by rfl, fun w' hSw => by (try dsimp only at hSw); go_simp⟩) (by assumption) ?_
    try simp only [Act.put, List.setIfInBounds_toArray, List.set_cons_zero, List.set_cons_succ]
    refine wpAnyH_take (i := 2) (oi := _) (v := .string s) rfl (by kernel_rfl) (by kernel_rfl) (by kernel_rfl) (fun _ _ _ h => h) (Or.inl ⟨by rfl, fun w' hSw => by (try dsimp only at hSw); go_simp⟩) (by assumption) ?_
    try simp only [Act.put, List.setIfInBounds_toArray, List.set_cons_zero, List.set_cons_succ]
    refine wpAnyH_take (i := 4) (oi := _) (v := .slice ad m cap) rfl (by kernel_rfl) (by kernel_rfl) (by kernel_rfl) (fun _ _ _ h => h) (Or.inl ⟨by rfl, fun w' hSw => by (try dsimp only at hSw); go_simp⟩) (by assumption) ?_
    try simp only [Act.put, List.setIfInBounds_toArray, List.set_cons_zero, List.set_cons_succ]
    refine wpAnyH_take (i := 8) (oi := _) (v := .int .i64 0) rfl (by kernel_rfl) (by kernel_rfl) (by kernel_rfl) (fun _ _ _ h => h) (Or.inl ⟨by rfl, fun w' hSw => by (try dsimp only at hSw); go_simp⟩) (by assumption) ?_
    try simp only [Act.put, List.setIfInBounds_toArray, List.set_cons_zero, List.set_cons_succ]
    refine wpAnyH_ready (rs := [1, 3]) (by kernel_rfl) (by simp) ?_
    refine AllReadyH.cons (o := _) rfl (fun K hK => ?_) ?_
    ·
      go_simp
      refine (C13.out _).mono ?_
      rintro x w1 ⟨p1, rfl, hF, hb⟩
      have B1 := Lib.hid (HD.out.trans (hb.mono HD.out.size))
      have F1 := Lib.hid hF
      have Q1 := Lib.hid hb
      clear hF hb
      refine hK.out _ _ (HS.out _ B1.out) (fun hHeld => ?_)
      clear hK K
      try simp only [Act.put, List.setIfInBounds_toArray, List.set_cons_zero, List.set_cons_succ]
      refine wpAnyH_ready (rs := [3, 5]) (by kernel_rfl) (by simp) ?_
      refine AllReadyH.cons (o := _) rfl (fun K hK => ?_) ?_
      ·
        go_simp
        have B2 := Lib.hid (B1.out.trans ((bytesBelow w1 5 s _ (Nat.le_refl _)).mono B1.out.size))
        have X2 := Lib.hid (conv_inp w1 s (HT.out _ B1.out))
        have Y2 := Lib.hid (HCP.out w1)
        have Q2 := Lib.hid (bytesBelow w1 5 s _ (Nat.le_refl _))
        refine hK.out _ _ (HS.out _ B2.out) (fun hHeld => ?_)
        clear hK K
        try simp only [Act.put, List.setIfInBounds_toArray, List.set_cons_zero, List.set_cons_succ]
        have M3 := Lib.hid (belowRow Q2.out F1.out)
        refine wpAnyH_ready (rs := [5]) (by kernel_rfl) (by simp) ?_
        refine AllReadyH.cons (o := _) rfl (fun K hK => ?_) AllReadyH.nil
        go_simp
        refine (C15.out _ B2.out).mono ?_
        rintro x w4 ⟨V, rfl, hV, hb⟩
        have B4 := Lib.hid (B2.out.trans (hb.mono B2.out.size))
        have V4 := Lib.hid hV
        have Q4 := Lib.hid hb
        clear hV hb
        refine hK.out _ _ (HS.out _ B4.out) (fun hHeld => ?_)
        clear hK K
        try simp only [Act.put, List.setIfInBounds_toArray, List.set_cons_zero, List.set_cons_succ]
        have M5 := Lib.hid (belowRow Q4.out M3.out)
        have M6 := Lib.hid (X2.out.below Q4.out)
        refine wpAnyH_ready (rs := [6]) (by kernel_rfl) (by simp) ?_
        refine AllReadyH.cons (o := _) rfl (fun K hK => ?_) AllReadyH.nil
        go_simp
        refine (C14.out p1 _ _ V (HCP.out w1) _ M6.out M5.out V4.out).mono ?_
        rintro x w9 ⟨g, gc, fs, rfl, hA, hG, hb⟩
        have B9 := Lib.hid (B4.out.trans (hb.mono B4.out.size))
        have A9 := Lib.hid hA
        have G9 := Lib.hid hG
        clear hA hG hb
        refine hK.out _ _ (HS.out _ B9.out) (fun hHeld => ?_)
        clear hK K
        try simp only [Act.put, List.setIfInBounds_toArray, List.set_cons_zero, List.set_cons_succ]
        refine wpAnyH_ready (rs := [7]) (by kernel_rfl) (by simp) ?_
        refine AllReadyH.cons (o := _) rfl (fun K hK => ?_) AllReadyH.nil
        go_simp
        refine hK.out _ _ (HS.out _ B9.out) (fun hHeld => ?_)
        clear hK K
        try simp only [Act.put, List.setIfInBounds_toArray, List.set_cons_zero, List.set_cons_succ]
        refine wpAnyH_done (by kernel_rfl) ?_ _
        refine NoPanic.normal ?_
        go_wp2_with fail
        go_meet
        case rel => exact ⟨g, gc, fs, _, _, rfl, rfl, rfl, A9.out, G9, B9.out⟩
      refine AllReadyH.cons (o := _) rfl (fun K hK => ?_) AllReadyH.nil
      go_simp
      refine (C15.out _ B1.out).mono ?_
      rintro x w7 ⟨V, rfl, hV, hb⟩
      have B7 := Lib.hid (B1.out.trans (hb.mono B1.out.size))
      have V7 := Lib.hid hV
      have Q7 := Lib.hid hb
      clear hV hb
      refine hK.out _ _ (HS.out _ B7.out) (fun hHeld => ?_)
      clear hK K
      try simp only [Act.put, List.setIfInBounds_toArray, List.set_cons_zero, List.set_cons_succ]
      have M8 := Lib.hid (belowRow Q7.out F1.out)
      refine wpAnyH_ready (rs := [3]) (by kernel_rfl) (by simp) ?_
      refine AllReadyH.cons (o := _) rfl (fun K hK => ?_) AllReadyH.nil
      go_simp
      have B9 := Lib.hid (B7.out.trans ((bytesBelow w7 5 s _ (Nat.le_refl _)).mono B7.out.size))
      have X9 := Lib.hid (conv_inp w7 s (HT.out _ B7.out))
      have Y9 := Lib.hid (HCP.out w7)
      have Q9 := Lib.hid (bytesBelow w7 5 s _ (Nat.le_refl _))
      refine hK.out _ _ (HS.out _ B9.out) (fun hHeld => ?_)
      clear hK K
      try simp only [Act.put, List.setIfInBounds_toArray, List.set_cons_zero, List.set_cons_succ]
      have M10 := Lib.hid (belowRow Q9.out M8.out)
      have M11 := Lib.hid (V7.out.below Q9.out)
      refine wpAnyH_ready (rs := [6]) (by kernel_rfl) (by simp) ?_
      refine AllReadyH.cons (o := _) rfl (fun K hK => ?_) AllReadyH.nil
      go_simp
      refine (C14.out p1 _ _ V (HCP.out w7) _ X9.out M10.out M11.out).mono ?_
      rintro x w9 ⟨g, gc, fs, rfl, hA, hG, hb⟩
      have B9 := Lib.hid (B9.out.trans (hb.mono B9.out.size))
      have A9 := Lib.hid hA
      have G9 := Lib.hid hG
      clear hA hG hb
      refine hK.out _ _ (HS.out _ B9.out) (fun hHeld => ?_)
      clear hK K
      try simp only [Act.put, List.setIfInBounds_toArray, List.set_cons_zero, List.set_cons_succ]
      refine wpAnyH_ready (rs := [7]) (by kernel_rfl) (by simp) ?_
      refine AllReadyH.cons (o := _) rfl (fun K hK => ?_) AllReadyH.nil
      go_simp
      refine hK.out _ _ (HS.out _ B9.out) (fun hHeld => ?_)
      clear hK K
      try simp only [Act.put, List.setIfInBounds_toArray, List.set_cons_zero, List.set_cons_succ]
      refine wpAnyH_done (by kernel_rfl) ?_ _
      refine NoPanic.normal ?_
      go_wp2_with fail
      go_meet
      case rel => exact ⟨g, gc, fs, _, _, rfl, rfl, rfl, A9.out, G9, B9.out⟩
    refine AllReadyH.cons (o := _) rfl (fun K hK => ?_) AllReadyH.nil
    go_simp
    have B12 := Lib.hid (HD.out.trans ((bytesBelow w.drew 5 s _ (Nat.le_refl _)).mono HD.out.size))
    have X12 := Lib.hid (conv_inp w.drew s (HT.out _ HD.out))
    have Y12 := Lib.hid (HCP.out w.drew)
    have Q12 := Lib.hid (bytesBelow w.drew 5 s _ (Nat.le_refl _))
    refine hK.out _ _ (HS.out _ B12.out) (fun hHeld => ?_)
    clear hK K
    try simp only [Act.put, List.setIfInBounds_toArray, List.set_cons_zero, List.set_cons_succ]
    refine wpAnyH_ready (rs := [1]) (by kernel_rfl) (by simp) ?_
    refine AllReadyH.cons (o := _) rfl (fun K hK => ?_) AllReadyH.nil
    go_simp
    refine (C13.out _).mono ?_
    rintro x w13 ⟨p1, rfl, hF, hb⟩
    have B13 := Lib.hid (B12.out.trans (hb.mono B12.out.size))
    have F13 := Lib.hid hF
    have Q13 := Lib.hid hb
    clear hF hb
    refine hK.out _ _ (HS.out _ B13.out) (fun hHeld => ?_)
    clear hK K
    try simp only [Act.put, List.setIfInBounds_toArray, List.set_cons_zero, List.set_cons_succ]
    have M14 := Lib.hid (X12.out.below Q13.out)
    refine wpAnyH_ready (rs := [5]) (by kernel_rfl) (by simp) ?_
    refine AllReadyH.cons (o := _) rfl (fun K hK => ?_) AllReadyH.nil
    go_simp
    refine (C15.out _ B13.out).mono ?_
    rintro x w15 ⟨V, rfl, hV, hb⟩
    have B15 := Lib.hid (B13.out.trans (hb.mono B13.out.size))
    have V15 := Lib.hid hV
    have Q15 := Lib.hid hb
    clear hV hb
    refine hK.out _ _ (HS.out _ B15.out) (fun hHeld => ?_)
    clear hK K
    try simp only [Act.put, List.setIfInBounds_toArray, List.set_cons_zero, List.set_cons_succ]
    have M16 := Lib.hid (M14.out.below Q15.out)
    have M17 := Lib.hid (belowRow Q15.out F13.out)
    refine wpAnyH_ready (rs := [6]) (by kernel_rfl) (by simp) ?_
    refine AllReadyH.cons (o := _) rfl (fun K hK => ?_) AllReadyH.nil
    go_simp
    refine (C14.out p1 _ _ V (HCP.out w.drew) _ M16.out M17.out V15.out).mono ?_
    rintro x w9 ⟨g, gc, fs, rfl, hA, hG, hb⟩
    have B9 := Lib.hid (B15.out.trans (hb.mono B15.out.size))
    have A9 := Lib.hid hA
    have G9 := Lib.hid hG
    clear hA hG hb
    refine hK.out _ _ (HS.out _ B9.out) (fun hHeld => ?_)
    clear hK K
    try simp only [Act.put, List.setIfInBounds_toArray, List.set_cons_zero, List.set_cons_succ]
    refine wpAnyH_ready (rs := [7]) (by kernel_rfl) (by simp) ?_
    refine AllReadyH.cons (o := _) rfl (fun K hK => ?_) AllReadyH.nil
    go_simp
    refine hK.out _ _ (HS.out _ B9.out) (fun hHeld => ?_)
    clear hK K
    try simp only [Act.put, List.setIfInBounds_toArray, List.set_cons_zero, List.set_cons_succ]
    refine wpAnyH_done (by kernel_rfl) ?_ _
    refine NoPanic.normal ?_
    go_wp2_with fail
    go_meet
    case rel => exact ⟨g, gc, fs, _, _, rfl, rfl, rfl, A9.out, G9, B9.out⟩
  case rest =>
    obtain ⟨g, gc, fs, bb, cp, rfl, rfl, rfl, hA, HG, hb⟩ := hcut
    clear HS HT C13 C15 C14 HCP HCM HD hcv c0 c1 c2
    have HO1 := HO3.out.below hb
    have hl3 : a3 < wc.heap.size := HO1.lt
    have hk : fs.length ≤ 1000 := by have := HG.out.len; omega
    have hne : ∀ i (hi : i < fs.length), g ≠ a3 ∧ fs[i].1 ≠ a3 := by
      intro i hi
      constructor
      · intro e
        have q := (hA 0 (by omega)).1
        rw [e, HO1.cell] at q
        cases q
      · intro e
        have q := (hA i hi).2 0 _ rfl
        rw [e, HO1.cell] at q
        cases q
    have HNE := Lib.hid hne
    have HA := Lib.hid hA
    have HB := Lib.hid hb
    obtain ⟨ti, tz, hti1, hti2, hti3, hti4, hti5⟩ := info_arr
    have I1 := Lib.hid hti1
    have I2 := Lib.hid hti2
    have I3 := Lib.hid hti3
    have I4 := Lib.hid hti4
    have I5 := Lib.hid hti5
    have HOS := Lib.hid (OutW.start HO1)
    obtain ⟨k, hkk⟩ : ∃ k, List.length fs = k := ⟨_, rfl⟩
    rw [hkk] at hk ⊢
    have HK := Lib.hid hkk
    clear hA hb hti1 hti2 hti3 hti4 hti5 hne HO1 HO3 hkk
    go_wp2_with fail
    go_loopg [5, 14] k (fun gh s5 s14 wx => ∃ (i : Nat) (v : Value) (ps : List (Int × Int)), i ≤ k ∧ gh = k - i ∧ s14 = .int .i64 i ∧ ps.length = i ∧ Hid ((fs.map (prOf rs)).take i = ps) ∧ OutW wc a3 ps v wx)
    case atStart => exact ⟨0, _, [], by omega, by omega, rfl, rfl, Lib.hid rfl, HOS.out⟩
    case round =>
      obtain ⟨i, v, ps, hi, hgk, rfl, hpl, HT, hO⟩ := hrel
      by_cases hik : i < k
      · have hif : i < fs.length := by have := HK.out; omega
        obtain ⟨hg3, hf3⟩ := HNE.out i hif
        obtain ⟨q1, qr⟩ := HA.out i hif
        have q2 := hO.cell q1 hg3
        have q3 : wr.cell? ⟨fs[i].1, 2, none⟩ = some (.int .i64 (off rs fs[i].2.1)) := hO.cell (qr 2 _ rfl) hf3
        have q4 : wr.cell? ⟨fs[i].1, 3, none⟩ = some (.int .i64 (off rs fs[i].2.2)) := hO.cell (qr 3 _ rfl) hf3
        have q5 := hO.one.cell
        have HX := Lib.hid (List.getElem?_eq_getElem hif)
        obtain ⟨z, hz⟩ : ∃ z, fs[i] = z := ⟨_, rfl⟩
        rw [hz] at q2 q3 q4 HX
        obtain ⟨pp, X, Y⟩ := z
        unfold ptrOf at q2
        simp only [] at q2 q3 q4
        have hpp : some pp ≠ v.ownBlock := fun e => by
          have h1 := (hO.own_lt e.symm).2
          have h2 : pp < wc.heap.size := by have := World.block_lt_of_cell? wc _ (qr 2 _ rfl); rw [hz] at this; exact this
          omega
        have HPP := Lib.hid hpp
        have hf3' : pp ≠ a3 := by rw [hz] at hf3; exact hf3
        have hOO := hO.drewN 1
        have HOO := Lib.hid (show OutW wc a3 ps v wr.drew from hOO)
        have q3' : wr.drew.cell? ⟨pp, 2, none⟩ = some (.int .i64 (off rs X)) := q3
        have q4' : wr.drew.cell? ⟨pp, 3, none⟩ = some (.int .i64 (off rs Y)) := q4
        have q5' : wr.drew.cell? ⟨a3, 0, none⟩ = some v := q5
        have S0 := Lib.hid (And.intro q3' q4')
        clear q1 qr hg3 hz hO hpp hOO hf3 q3' q4'
        go_wp2_with fail
        refine wp_region_noPanic ?_
        refine wp_region_held_drew (S := (fun w' => w'.cell? ⟨pp, 2, none⟩ = some (.int .i64 (off rs X)) ∧ w'.cell? ⟨pp, 3, none⟩ = some (.int .i64 (off rs Y)))) (by kernel_rfl) S0.out (fun hHeld => ?_)
        clear q2 q3 q4 q5
        have PF := Lib.hid (HOO.out.facts (off rs X) (off rs Y))
        rw [hpl] at PF
        have q8 : (wr.drew.alloc (.cells #[.int .i64 (off rs X), .int .i64 (off rs Y)] 26)).cell? ⟨a3, 0, none⟩ = some v := belowRow ((Below.refl _ _).alloc (Nat.le_refl _) _) q5'
        have S1 := Lib.hid (And.intro (belowRow ((Below.refl _ _).alloc (Nat.le_refl _) (.cells #[.int .i64 (off rs X), .int .i64 (off rs Y)] 26)) S0.out.1) (belowRow ((Below.refl _ _).alloc (Nat.le_refl _) (.cells #[.int .i64 (off rs X), .int .i64 (off rs Y)] 26)) S0.out.2))
        generalize wr.drew = W at *
        refine wpAnyH_take (i := 1) (oi := _) (v := .pointer (some ⟨pp, 0, none⟩)) rfl (by kernel_rfl) (by kernel_rfl) (by kernel_rfl) (fun _ _ _ h => h) (Or.inl ⟨by rfl, fun w' hSw => by (try dsimp only at hSw); go_simp⟩) (by assumption) ?_
        try simp only [Act.put, List.setIfInBounds_toArray, List.set_cons_zero, List.set_cons_succ]
        refine wpAnyH_take (i := 2) (oi := _) (v := .pointer (some ⟨pp, 0, none⟩)) rfl (by kernel_rfl) (by kernel_rfl) (by kernel_rfl) (fun _ _ _ h => h) (Or.inl ⟨by rfl, fun w' hSw => by (try dsimp only at hSw); go_simp⟩) (by assumption) ?_
        try simp only [Act.put, List.setIfInBounds_toArray, List.set_cons_zero, List.set_cons_succ]
        refine wpAnyH_take (i := 3) (oi := _) (v := .pointer (some ⟨pp, 2, none⟩)) rfl (by kernel_rfl) (by kernel_rfl) (by kernel_rfl) (fun _ _ _ h => h) (Or.inl ⟨by rfl, fun w' hSw => by (try dsimp only at hSw); go_simp⟩) (by assumption) ?_
        try simp only [Act.put, List.setIfInBounds_toArray, List.set_cons_zero, List.set_cons_succ]
        refine wpAnyH_take (i := 4) (oi := _) (v := .int .i64 (off rs X)) rfl (by kernel_rfl) (by kernel_rfl) (by kernel_rfl) (fun _ _ _ h => h) (Or.inl ⟨by rfl, fun w' hSw => by (try dsimp only at hSw); go_simp⟩) (by assumption) ?_
        try simp only [Act.put, List.setIfInBounds_toArray, List.set_cons_zero, List.set_cons_succ]
        refine wpAnyH_take (i := 5) (oi := _) (v := .pointer (some ⟨pp, 0, none⟩)) rfl (by kernel_rfl) (by kernel_rfl) (by kernel_rfl) (fun _ _ _ h => h) (Or.inl ⟨by rfl, fun w' hSw => by (try dsimp only at hSw); go_simp⟩) (by assumption) ?_
        try simp only [Act.put, List.setIfInBounds_toArray, List.set_cons_zero, List.set_cons_succ]
        refine wpAnyH_take (i := 6) (oi := _) (v := .pointer (some ⟨pp, 0, none⟩)) rfl (by kernel_rfl) (by kernel_rfl) (by kernel_rfl) (fun _ _ _ h => h) (Or.inl ⟨by rfl, fun w' hSw => by (try dsimp only at hSw); go_simp⟩) (by assumption) ?_
        try simp only [Act.put, List.setIfInBounds_toArray, List.set_cons_zero, List.set_cons_succ]
        refine wpAnyH_take (i := 7) (oi := _) (v := .pointer (some ⟨pp, 3, none⟩)) rfl (by kernel_rfl) (by kernel_rfl) (by kernel_rfl) (fun _ _ _ h => h) (Or.inl ⟨by rfl, fun w' hSw => by (try dsimp only at hSw); go_simp⟩) (by assumption) ?_
        try simp only [Act.put, List.setIfInBounds_toArray, List.set_cons_zero, List.set_cons_succ]
        refine wpAnyH_take (i := 8) (oi := _) (v := .int .i64 (off rs Y)) rfl (by kernel_rfl) (by kernel_rfl) (by kernel_rfl) (fun _ _ _ h => h) (Or.inl ⟨by rfl, fun w' hSw => by (try dsimp only at hSw); go_simp⟩) (by assumption) ?_
        try simp only [Act.put, List.setIfInBounds_toArray, List.set_cons_zero, List.set_cons_succ]
        refine wpAnyH_take (i := 9) (oi := _) (v := .agg #[.int .i64 (off rs X), .int .i64 (off rs Y)]) rfl (by kernel_rfl) (by kernel_rfl) (by kernel_rfl) (fun _ _ _ h => h) (Or.inl ⟨by rfl, fun w' hSw => by (try dsimp only at hSw); go_simp⟩) (by assumption) ?_
        try simp only [Act.put, List.setIfInBounds_toArray, List.set_cons_zero, List.set_cons_succ]
        refine wpAnyH_ready (rs := [0, 10]) (by kernel_rfl) (by simp) ?_
        refine AllReadyH.cons (o := _) rfl (fun K hK => ?_) ?_
        · go_simp
          refine hK.out _ _ S0.out (fun hHeld => ?_)
          clear hK K
          try simp only [Act.put, List.setIfInBounds_toArray, List.set_cons_zero, List.set_cons_succ]
          refine wpAnyH_ready (rs := [10]) (by kernel_rfl) (by simp) ?_
          refine AllReadyH.cons (o := _) rfl (fun K hK => ?_) AllReadyH.nil
          go_simp
          refine hK.out _ _ S1.out (fun hHeld => ?_)
          clear hK K
          try simp only [Act.put, List.setIfInBounds_toArray, List.set_cons_zero, List.set_cons_succ]
          refine wpAnyH_ready (rs := [11]) (by kernel_rfl) (by simp) ?_
          refine AllReadyH.cons (o := _) rfl (fun K hK => ?_) AllReadyH.nil
          refine step_append_lies _ (by rfl) _ _ _ (by rfl) wc.heap.size 26 ti tz 2 16 Tryd.underlying22 I1.out I2.out I3.out I4.out I5.out (by omega) v i (flatP ps) (by rfl) PF.out.1 ⟨W.heap.size, 0, none⟩ 1 1 [.int .i64 (off rs X), .int .i64 (off rs Y)] (by rfl) (by rfl) PF.out.2.1 PF.out.2.2.1 (by omega) (by simp [maxLen]; omega) (by omega) PF.out.2.2.2 (W.heap.size + 1) (by simp) ?_
          intro gg gc3 w3 hown hgrow hat hlt
          have h3 := HOO.out.grown hl3 _ hgrow
          have hpush := HOO.out.push hl3 (off rs X) (off rs Y) (g := gg) (gc := gc3) (by rw [hpl]; exact hown) hgrow
          rw [hpl] at hpush
          have HPU := Lib.hid hpush
          have S2 := Lib.hid (And.intro (hgrow.cell S1.out.1 HPP.out) (hgrow.cell S1.out.2 HPP.out))
          have q6 := h3.cell
          have q7 := h3.free
          clear hown hgrow hat hlt hpush h3
          refine hK.out _ _ S2.out (fun hHeld => ?_)
          clear hK K
          try simp only [Act.put, List.setIfInBounds_toArray, List.set_cons_zero, List.set_cons_succ]
          refine wpAnyH_ready (rs := [12]) (by kernel_rfl) (by simp) ?_
          refine AllReadyH.cons (o := _) rfl (fun K hK => ?_) AllReadyH.nil
          go_simp
          refine hK.out _ _ ⟨cell_other hf3' S2.out.1, cell_other hf3' S2.out.2⟩ (fun hHeld => ?_)
          clear hK K
          try simp only [Act.put, List.setIfInBounds_toArray, List.set_cons_zero, List.set_cons_succ]
          refine wpAnyH_done (by kernel_rfl) ?_ _
          refine NoPanic.normal ?_
          clear q6 q7 hHeld q5' q8
          go_wp2_with fail
          go_roundg (k - (i + 1))
          case measure => omega
          case rel =>
            refine ⟨i + 1, _, ps ++ [((off rs X : Int), (off rs Y : Int))], by omega, rfl, rfl, by simp [hpl], Lib.hid ?_, HPU.out⟩
            have hx : (fs.map (prOf rs))[i]? = some ((off rs X : Int), (off rs Y : Int)) := by rw [List.getElem?_map, HX.out]; rfl
            rw [List.take_add_one, HT.out, hx]
            rfl
        refine AllReadyH.cons (o := _) rfl (fun K hK => ?_) AllReadyH.nil
        go_simp
        refine hK.out _ _ S1.out (fun hHeld => ?_)
        clear hK K
        try simp only [Act.put, List.setIfInBounds_toArray, List.set_cons_zero, List.set_cons_succ]
        refine wpAnyH_ready (rs := [0]) (by kernel_rfl) (by simp) ?_
        refine AllReadyH.cons (o := _) rfl (fun K hK => ?_) AllReadyH.nil
        go_simp
        refine hK.out _ _ S1.out (fun hHeld => ?_)
        clear hK K
        try simp only [Act.put, List.setIfInBounds_toArray, List.set_cons_zero, List.set_cons_succ]
        refine wpAnyH_ready (rs := [11]) (by kernel_rfl) (by simp) ?_
        refine AllReadyH.cons (o := _) rfl (fun K hK => ?_) AllReadyH.nil
        refine step_append_lies _ (by rfl) _ _ _ (by rfl) wc.heap.size 26 ti tz 2 16 Tryd.underlying22 I1.out I2.out I3.out I4.out I5.out (by omega) v i (flatP ps) (by rfl) PF.out.1 ⟨W.heap.size, 0, none⟩ 1 1 [.int .i64 (off rs X), .int .i64 (off rs Y)] (by rfl) (by rfl) PF.out.2.1 PF.out.2.2.1 (by omega) (by simp [maxLen]; omega) (by omega) PF.out.2.2.2 (W.heap.size + 1) (by simp) ?_
        intro gg gc3 w3 hown hgrow hat hlt
        have h3 := HOO.out.grown hl3 _ hgrow
        have hpush := HOO.out.push hl3 (off rs X) (off rs Y) (g := gg) (gc := gc3) (by rw [hpl]; exact hown) hgrow
        rw [hpl] at hpush
        have HPU := Lib.hid hpush
        have S2 := Lib.hid (And.intro (hgrow.cell S1.out.1 HPP.out) (hgrow.cell S1.out.2 HPP.out))
        have q6 := h3.cell
        have q7 := h3.free
        clear hown hgrow hat hlt hpush h3
        refine hK.out _ _ S2.out (fun hHeld => ?_)
        clear hK K
        try simp only [Act.put, List.setIfInBounds_toArray, List.set_cons_zero, List.set_cons_succ]
        refine wpAnyH_ready (rs := [12]) (by kernel_rfl) (by simp) ?_
        refine AllReadyH.cons (o := _) rfl (fun K hK => ?_) AllReadyH.nil
        go_simp
        refine hK.out _ _ ⟨cell_other hf3' S2.out.1, cell_other hf3' S2.out.2⟩ (fun hHeld => ?_)
        clear hK K
        try simp only [Act.put, List.setIfInBounds_toArray, List.set_cons_zero, List.set_cons_succ]
        refine wpAnyH_done (by kernel_rfl) ?_ _
        refine NoPanic.normal ?_
        clear q6 q7 hHeld q5' q8
        go_wp2_with fail
        go_roundg (k - (i + 1))
        case measure => omega
        case rel =>
          refine ⟨i + 1, _, ps ++ [((off rs X : Int), (off rs Y : Int))], by omega, rfl, rfl, by simp [hpl], Lib.hid ?_, HPU.out⟩
          have hx : (fs.map (prOf rs))[i]? = some ((off rs X : Int), (off rs Y : Int)) := by rw [List.getElem?_map, HX.out]; rfl
          rw [List.take_add_one, HT.out, hx]
          rfl
      · have HOO := Lib.hid hO
        have he : ps = fs.map (prOf rs) := by rw [← HT.out]; exact List.take_of_length_le (by have := HK.out; simp; omega)
        have HE := Lib.hid he
        clear hO he
        go_wp2_with fail
        go_end0
        exact ⟨rfl, wc, v, fs, HB.out, by rw [← HE.out]; exact HOO.out, HG.out⟩
end Go.Proofs.YtbfelpgojgaeoaaDoor
