/- The walk of the fragmenter's Fragment at terms between code points, in order. -/
import Derived.Test.YtbfelpgojgaeoaaDoorFragSome
set_option linter.unusedVariables false
set_option linter.unusedSimpArgs false
namespace Go.Proofs.YtbfelpgojgaeoaaDoor
open Go.RowKit

theorem InOrder.mono {m n : Nat} {st en : Nat → Nat} (h : InOrder m n st en) {i : Nat} : ∀ t, i + t < m → en i ≤ en (i + t)
  | 0, _ => Nat.le_refl _
  | t + 1, hi => by
    have h1 := h.mono (i := i) t (by omega)
    have h2 := h.up (i + t) (by omega)
    have h3 := h.le (i + (t + 1)) hi
    rw [show i + t + 1 = i + (t + 1) by omega] at h2
    omega

theorem count_none {s : ByteArray} {w : World} {b : Nat} (I : Inp w b s) (len c : Nat) (hlen : len = 0) :
    Calls Tryd.prog 26 #[.slice (some ⟨b, 0, none⟩) len c] w fun e w' => e = .returned (.int .i64 ((0 : Nat) : Int)) ∧ Below w.heap.size w w' := by
  subst hlen
  have c0 := Tryd.utf8_RuneCount ByteArray.empty b 0 c w (Nat.zero_le _) (fun j hj => absurd hj (Nat.not_lt_zero _)) (by decide)
  refine c0.mono ?_
  rintro e w' ⟨rfl, rfl | ⟨t, pos, rfl⟩⟩
  · exact ⟨rfl, Below.refl _ _⟩
  · exact ⟨rfl, iter_below _ _ _⟩

theorem info_frag_parts : ∃ i, Tryd.prog.info? 46 = some i ∧ i.zero = some (.pointer none) ∧ i.size = 1 ∧ i.bytes = 8 := by
  have h := info_frag
  cases hi : Tryd.prog.info? 46 with
  | none => rw [hi] at h; cases h
  | some i =>
    rw [hi] at h
    have h := Option.some.inj h
    injection h with h1 h2
    injection h2 with h2 h3
    exact ⟨i, rfl, h1, h2, h3⟩
/-- A fragment's two blocks: its own, and the one of the element to be appended. -/
abbrev fragW (w : World) (b n cap : Nat) (x y : Int) : World := (w.alloc (.cells (fragCells b n cap x y) 50)).alloc (.cells #[.pointer (some ⟨w.heap.size, 0, none⟩)] 46)
theorem push_facts {w0 w : World} {b n cap : Nat} {rs : List Nat} {fs : List (Nat × Nat × Nat)} {v : Value} (h : RW w0 b n cap rs fs v w) (x y : Int) :
    (fragW w b n cap x y).ownsRow w0.heap.size 46 1 v fs.length (fs.map ptrOf) ∧
      (∀ j u, [Value.pointer (some ⟨w.heap.size, 0, none⟩)][j]? = some u → (fragW w b n cap x y).cell? ((⟨w.heap.size + 1, 0, none⟩ : Addr).add j) = some u) ∧
      (∀ u ∈ [Value.pointer (some ⟨w.heap.size, 0, none⟩)], u.oneCell' = true) ∧ w0.heap.size ≤ (fragW w b n cap x y).heap.size := by
  have hz : (w.alloc (.cells (fragCells b n cap x y) 50)).heap.size = w.heap.size + 1 := by simp
  refine ⟨(h.own.alloc _).alloc _, ?_, ?_, ?_⟩
  · have := World.news_of_block (heap_alloc_new (w.alloc (.cells (fragCells b n cap x y) 50)) (.cells #[.pointer (some ⟨w.heap.size, 0, none⟩)] 46))
    rw [hz] at this
    exact this
  · intro u hu; rw [List.mem_singleton.1 hu]; rfl
  · have := h.bel.size; simp; omega
theorem good_push {size n m : Nat} {st en : Nat → Nat} {fs : List (Nat × Nat × Nat)} {i : Nat} (hi : fs.length = i) (h : ∀ j x, fs[j]? = some x → Good size n (st j) (en j) x.2.1 x.2.2) (z : Nat × Nat × Nat) (hz : Good size n (st i) (en i) z.2.1 z.2.2) :
    ∀ j x, (fs ++ [z])[j]? = some x → Good size n (st j) (en j) x.2.1 x.2.2 := by
  intro j x hx
  by_cases hj : j < fs.length
  · rw [List.getElem?_append_left hj] at hx; exact h j x hx
  · rw [List.getElem?_append_right (by omega)] at hx
    have h0 : j - fs.length = 0 := by
      by_cases h0 : j - fs.length = 0
      · exact h0
      · rw [List.getElem?_eq_none (by simp; omega)] at hx; cases hx
    rw [h0] at hx
    have : z = x := by simpa using hx
    subst this
    have : j = i := by omega
    subst this
    exact hz

set_option maxRecDepth 1000000 in
set_option maxHeartbeats 16000000 in
theorem fragment_some (s : ByteArray) (rs : List Nat) (h : Txt s rs) (hn : 65533 ∉ rs) (fb b cap size lb m lc : Nat) (ps st en : Nat → Nat) (hcap : s.size ≤ cap) (hsz : s.size ≤ 2147483647) (hsize : size ≤ 2147483647) (hm : 0 < m) (hm2 : m ≤ 1000) (hlc : m ≤ lc) (w : World) (I : Inp w b s) (hf : w.cell? ⟨fb, 0, none⟩ = some (.int .i64 size))
    (L : Locs w lb m ps rs st en) (O : InOrder m rs.length st en) :
    Calls Tryd.prog 14 #[.pointer (some ⟨fb, 0, none⟩), .slice (some ⟨b, 0, none⟩) s.size cap, .slice (some ⟨lb, 0, none⟩) m lc] w fun e w' =>
      ∃ v fs, e = .returned v ∧ RW w b s.size cap rs fs v w' ∧ fs.length = m ∧ ∀ i x, fs[i]? = some x → Good size rs.length (st i) (en i) x.2.1 x.2.2 := by
  have hLI := Lib.hid L
  have hOI := Lib.hid O
  clear L O
  go_enter Tryd.func14, Tryd.ntmps14
  go_wp2
  go_step3
  go_wp2
  go_step3
  go_wp2
  go_loopg [7, 8, 33] m (fun g s7 s8 s33 wx => ∃ (i : Nat) (fs : List (Nat × Nat × Nat)), i ≤ m ∧ g = m - i ∧ s33 = .int .i64 i ∧ s8 = .int .i64 (off rs (mb en i)) ∧ fs.length = i ∧ RW w b s.size cap rs fs s7 wx ∧ Hid (∀ j x, fs[j]? = some x → Good size rs.length (st j) (en j) x.2.1 x.2.2))
  case atStart => exact ⟨0, [], by omega, by omega, rfl, rfl, rfl, ⟨Below.refl _ _, World.ownsRow_nil _ _ _ _, by simp⟩, Lib.hid (by simp)⟩
  case round =>
    obtain ⟨i, fs, hi, hg, rfl, rfl, hfl, HR, HG⟩ := hrel
    have hR := Lib.hid HR
    clear HR
    by_cases him : i < m
    · have hLw := hLI.out.below hR.out.bel
      have q1 : wr.cell? ⟨lb, i, none⟩ = some (.pointer (some ⟨ps i, 0, none⟩)) := hLw.cell i him
      have q2 : wr.cell? ⟨ps i, 3, none⟩ = some (.int .i64 (off rs (st i))) := hLw.row i him 3 _ rfl
      have q3 : wr.cell? ⟨fb, 0, none⟩ = some (.int .i64 size) := belowRow hR.out.bel hf
      obtain ⟨S, hS⟩ : ∃ S, st i = S := ⟨_, rfl⟩
      obtain ⟨E, hE⟩ : ∃ E, en i = E := ⟨_, rfl⟩
      obtain ⟨M, hM⟩ : ∃ M, mb en i = M := ⟨_, rfl⟩
      have hSE := hOI.out.le i him
      have hMS := hOI.out.mb_le him
      rw [hS, hE] at hSE
      rw [hM, hS] at hMS
      rw [hS] at q2
      rw [hM]
      obtain ⟨e0, he0⟩ : ∃ e, min (S + size) rs.length = e := ⟨_, rfl⟩
      have HS := Lib.hid hS
      have HE := Lib.hid hE
      have HM := Lib.hid hM
      have HE0 := Lib.hid he0
      clear hLw hS hE hM he0
      go_upto_block 2 with fail
      go_cut [12, 13, 14, 15] (fun s12 s13 s14 s15 wx => s12 = .int .i64 (off rs e0) ∧ s13 = .int .i64 ((e0 - S : Nat) : Int) ∧ RW w b s.size cap rs fs u7 wx)
      case first =>
        clear q1 q2
        go_wp2_with fail
        go_loopg [12, 13, 14, 15] (rs.length - S) (fun g s12 s13 s14 s15 wx => ∃ k : Nat, S ≤ k ∧ k ≤ rs.length ∧ k - S ≤ size ∧ g = rs.length - k ∧ s12 = .int .i64 (off rs k) ∧ s13 = .int .i64 ((k - S : Nat) : Int) ∧ RW w b s.size cap rs fs u7 wx)
        case atStart => exact ⟨S, by omega, by omega, by omega, rfl, rfl, by rw [Nat.sub_self]; rfl, hR.out⟩
        case round =>
          obtain ⟨k, hk1, hk2, hk3, hgk, rfl, rfl, hRk⟩ := hrel
          have q3 : wr.cell? ⟨fb, 0, none⟩ = some (.int .i64 size) := belowRow hRk.bel hf
          have HRk := Lib.hid hRk
          have Jk := Lib.hid (I.below hRk.bel)
          clear hRk
          by_cases hkn : k < rs.length
          · have hlt : off rs k < s.size := by rw [h.size]; exact (off_lt_iff h.vs hk2 (Nat.le_refl _)).2 hkn
            by_cases hkz : k - S < size
            · go_wp2_with fail
              refine (dec_at (b := b) (cap := cap) h hn Jk.out hkn _ rfl).mono ?_
              rintro e w1 ⟨r, d, hr, hd, rfl, hb1⟩
              have hle := h.off_le (k := k + 1) (by omega)
              have hbeq : ((r : Int) == 65533) = false := by simpa using (by omega : ¬ (r : Int) = 65533)
              have HB1 := Lib.hid hb1
              clear hb1
              go_wp2_with fail
              go_roundg (rs.length - (k + 1))
              case measure => omega
              case rel => exact ⟨k + 1, by omega, by omega, by omega, rfl, by congr 1; omega, by congr 1; omega, HRk.out.step HB1.out⟩
            · go_wp2_with fail
              go_meet
              case rel =>
                have he := HE0.out
                have hke : k = e0 := by omega
                subst hke
                exact ⟨rfl, rfl, HRk.out⟩
          · have hlt : ¬ off rs k < s.size := by rw [h.size, off_lt_iff h.vs hk2 (Nat.le_refl _)]; omega
            go_wp2_with fail
            go_meet
            case rel =>
              have he := HE0.out
              have hke : k = e0 := by omega
              subst hke
              exact ⟨rfl, rfl, HRk.out⟩
      case rest =>
        obtain ⟨rfl, rfl, hRc⟩ := hcut
        have HRc := Lib.hid hRc
        clear hRc
        have he0 := HE0.out
        have he1 : S ≤ e0 ∧ e0 ≤ rs.length ∧ e0 - S ≤ size := by omega
        have HE1 := Lib.hid he0
        clear he0 q1 q2 q3
        go_upto_block 4 with fail
        go_cut [11, 13, 16, 17] (fun s11 s13 s16 s17 wx => ∃ j : Nat, M ≤ j ∧ j ≤ S ∧ e0 - j ≤ size ∧ s11 = .int .i64 (off rs j) ∧ RW w b s.size cap rs fs u7 wx)
        case first =>
          go_wp2_with fail
          go_loopg [11, 13, 16, 17] S (fun g s11 s13 s16 s17 wx => ∃ j : Nat, M ≤ j ∧ j ≤ S ∧ e0 - j ≤ size ∧ g = j ∧ s11 = .int .i64 (off rs j) ∧ s13 = .int .i64 ((e0 - j : Nat) : Int) ∧ RW w b s.size cap rs fs u7 wx)
          case atStart => exact ⟨S, by omega, by omega, by omega, rfl, rfl, rfl, HRc.out⟩
          case round =>
            obtain ⟨j, hj1, hj2, hj3, hgk, rfl, rfl, hRk⟩ := hrel
            have q3 : wr.cell? ⟨fb, 0, none⟩ = some (.int .i64 size) := belowRow hRk.bel hf
            have HRk := Lib.hid hRk
            have Jk := Lib.hid (I.below hRk.bel)
            clear hRk
            have hle := h.off_le (k := j) (by omega)
            cases j with
            | zero =>
              have hz : off rs 0 = 0 := off_zero rs
              go_wp2_with fail
              go_meet
              case rel => exact ⟨0, by omega, by omega, by omega, rfl, HRk.out⟩
            | succ k =>
              have hp : 0 < off rs (k + 1) := by have := off_lt h.vs (k := k) (by omega); omega
              by_cases hkz : e0 - (k + 1) < size
              · go_wp2_with fail
                refine (last_at (b := b) (cap := cap) h hn Jk.out hcap (by omega) (k := k) (by omega)).mono ?_
                rintro e w1 ⟨r, d, hr, hd, rfl, hb1⟩
                have hbeq : ((r : Int) == 65533) = false := by simpa using (by omega : ¬ (r : Int) = 65533)
                have HB1 := Lib.hid hb1
                clear hb1
                by_cases hMk : M ≤ k
                · have hge : off rs M ≤ off rs k := off_mono h.vs hMk (by omega)
                  go_wp2_with fail
                  go_roundg k
                  case measure => omega
                  case rel => exact ⟨k, by omega, by omega, by omega, rfl, by congr 1; omega, by congr 1; omega, HRk.out.step HB1.out⟩
                · have hge : ¬ off rs M ≤ off rs k := by rw [off_le_iff h.vs (by omega) (by omega)]; omega
                  go_wp2_with fail
                  go_meet
                  case rel => exact ⟨k + 1, by omega, by omega, by omega, rfl, HRk.out.step HB1.out⟩
              · go_wp2_with fail
                go_meet
                case rel => exact ⟨k + 1, by omega, by omega, by omega, rfl, HRk.out⟩
        case rest =>
          obtain ⟨j, hj1, hj2, hj3, rfl, hRd⟩ := hcut
          have HRd := Lib.hid hRd
          clear hRd
          go_upto_block 6 with fail
          go_cut [18, 20, 107] (fun s18 s20 s107 wx => ∃ me : Nat, me ≤ e0 ∧ s18 = .int .i64 (off rs me) ∧ (E ≤ e0 → E ≤ me) ∧ RW w b s.size cap rs fs u7 wx)
          case first =>
            go_wp2_with fail
            go_loopg [18, 20, 107] (m - i) (fun g s18 s20 s107 wx => ∃ t me : Nat, t ≤ m - i ∧ g = m - i - t ∧ s107 = .int .i64 t ∧ s18 = .int .i64 (off rs me) ∧ me ≤ e0 ∧ (E ≤ e0 → E ≤ me) ∧ RW w b s.size cap rs fs u7 wx)
            case atStart => exact ⟨0, e0, by omega, by omega, rfl, rfl, by omega, by omega, HRd.out⟩
            case round =>
              obtain ⟨t, me, ht, hgk, rfl, rfl, hme1, hme2, hRk⟩ := hrel
              have hLw := hLI.out.below hRk.bel
              have HRk := Lib.hid hRk
              clear hRk
              by_cases htm : t < m - i
              · have q1 : wr.cell? ⟨lb, i + t, none⟩ = some (.pointer (some ⟨ps (i + t), 0, none⟩)) := hLw.cell (i + t) (by omega)
                have q4 : wr.cell? ⟨ps (i + t), 4, none⟩ = some (.int .i64 (off rs (en (i + t)))) := hLw.row (i + t) (by omega) 4 _ rfl
                have hmono := hOI.out.mono (i := i) t (by omega)
                have hEE := HE.out
                rw [hEE] at hmono
                have hen := hOI.out.le (i + t) (by omega)
                have hle1 := h.off_le (k := en (i + t)) hen.2
                have hle2 := h.off_le (k := e0) (by omega)
                have HEE := Lib.hid hEE
                clear hEE hLw
                by_cases hin : en (i + t) ≤ e0
                · have hge : off rs (en (i + t)) ≤ off rs e0 := off_mono h.vs hin (by omega)
                  go_wp2_with fail
                  go_roundg (m - i - (t + 1))
                  case measure => omega
                  case rel => exact ⟨t + 1, en (i + t), by omega, rfl, by congr 1, rfl, hin, fun _ => hmono, HRk.out⟩
                · have hge : ¬ off rs (en (i + t)) ≤ off rs e0 := by rw [off_le_iff h.vs hen.2 (by omega)]; omega
                  go_wp2_with fail
                  go_meet
                  case rel => exact ⟨me, hme1, rfl, hme2, HRk.out⟩
              · clear hLw
                go_wp2_with fail
                go_meet
                case rel => exact ⟨me, hme1, rfl, hme2, HRk.out⟩
          case rest =>
            obtain ⟨me, hme1, rfl, hme2, hRe⟩ := hcut
            have hrl : rs.length ≤ s.size := by rw [h.size]; unfold off; rw [List.take_length]; exact fl_len rs h.vs
            have HRe := Lib.hid hRe
            have Je := Lib.hid (I.below hRe.bel)
            clear hRe
            have hle1 := h.off_le (k := e0) (by omega)
            have hle2 : off rs me ≤ off rs e0 := off_mono h.vs hme1 (by omega)
            have hle3 : off rs M ≤ off rs j := off_mono h.vs hj1 (by omega)
            have hle4 := h.off_le (k := j) (by omega)
            have hMn : off rs M < off rs rs.length := (off_lt_iff h.vs (by omega) (Nat.le_refl _)).2 (by omega)
            rw [← h.size] at hMn
            have hcM : ¬ cap = off rs M := by omega
            go_upto_region 28 with fail
            go_cut [21] (fun s21 wx => s21 = .int .i64 ((e0 - me : Nat) : Int) ∧ RW w b s.size cap rs fs u7 wx)
            case first =>
              by_cases hc : cap = off rs me
              · have hz : off rs e0 - off rs me = 0 := by omega
                have hz2 : e0 - me = 0 := by
                  by_cases hlt : me < e0
                  · have := (off_lt_iff h.vs (i := me) (j := e0) (by omega) (by omega)).2 hlt
                    omega
                  · omega
                subst hc
                have HZ := Lib.hid hz
                have HZ2 := Lib.hid hz2
                clear hz hz2
                go_wp2_with fail
                refine (count_none (b := b) Je.out (off rs e0 - off rs me) _ HZ.out).mono ?_
                rintro e w1 ⟨rfl, hb1⟩
                have HRf := Lib.hid (HRe.out.step hb1)
                clear hb1
                go_wp2_with fail
                go_meet
                case rel => exact ⟨by rw [HZ2.out]; rfl, HRf.out⟩
              · go_wp2_with fail
                refine (count_at (b := b) (cap := cap) h Je.out hcap (by omega) (i := me) (j := e0) hme1 (by omega) _ rfl).mono ?_
                rintro e w1 ⟨rfl, hb1⟩
                have HRf := Lib.hid (HRe.out.step hb1)
                clear hb1
                go_wp2_with fail
                go_meet
                case rel => exact ⟨rfl, HRf.out⟩
            case rest =>
              obtain ⟨rfl, hRf⟩ := hcut
              have HRf := Lib.hid hRf
              have Jf := Lib.hid (I.below hRf.bel)
              clear hRf
              go_wp2_with fail
              refine (count_at (b := b) (cap := cap) h Jf.out hcap (by omega) (i := M) (j := j) hj1 (by omega) _ rfl).mono ?_
              rintro e w2 ⟨rfl, hb2⟩
              have HRg := Lib.hid (HRf.out.step hb2)
              clear hb2
              obtain ⟨r0, hr0⟩ : ∃ r, min (e0 - me) (j - M) = r := ⟨_, rfl⟩
              have hr1 : r0 ≤ e0 - me ∧ r0 ≤ j - M := by omega
              have HR0 := Lib.hid hr0
              clear hr0
              go_upto_if 137 with fail
              go_cut [21] (fun s21 wx => s21 = .int .i64 (r0 : Int) ∧ RW w b s.size cap rs fs u7 wx)
              case first =>
                by_cases hlt : j - M < e0 - me
                · go_wp2_with fail
                  go_meet
                  case rel => exact ⟨by have := HR0.out; congr 2; omega, HRg.out⟩
                · go_wp2_with fail
                  go_meet
                  case rel => exact ⟨by have := HR0.out; congr 2; omega, HRg.out⟩
              case rest =>
                obtain ⟨rfl, hRh⟩ := hcut
                have HRh := Lib.hid hRh
                clear hRh
                obtain ⟨o0, ho0⟩ : ∃ o, r0 / 2 = o := ⟨_, rfl⟩
                have ho1 : o0 ≤ e0 - me ∧ o0 ≤ j - M := by omega
                have hq : ((r0 : Nat) : Int).tdiv 2 = ((o0 : Nat) : Int) := by rw [← ho0]; rfl
                have HO0 := Lib.hid ho0
                clear ho0
                go_wp2_with fail
                go_loopg [11, 12, 23, 24, 25] o0 (fun g s11 s12 s23 s24 s25 wx => ∃ p q k : Nat, k ≤ o0 ∧ g = k ∧ p + (o0 - k) = j ∧ q + (o0 - k) = e0 ∧ s23 = .int .i64 k ∧ s11 = .int .i64 (off rs p) ∧ s12 = .int .i64 (off rs q) ∧ RW w b s.size cap rs fs u7 wx)
                case atStart => exact ⟨j, e0, o0, by omega, rfl, by omega, by omega, rfl, rfl, rfl, HRh.out⟩
                case round =>
                  obtain ⟨p, q, k, hk1, hgk, hpj, hqe, rfl, rfl, rfl, hRk⟩ := hrel
                  have HRk := Lib.hid hRk
                  have Jk := Lib.hid (I.below hRk.bel)
                  clear hRk
                  cases k with
                  | zero =>
                    have hlp := h.off_le (k := p) (by omega)
                    have hlq := h.off_le (k := q) (by omega)
                    obtain ⟨ti, hti1, hti2, hti3, hti4⟩ := info_frag_parts
                    have I1 := Lib.hid hti1
                    have I2 := Lib.hid hti2
                    have I3 := Lib.hid hti3
                    have I4 := Lib.hid hti4
                    clear hti1 hti2 hti3 hti4
                    have PF := Lib.hid (push_facts HRk.out (off rs p) (off rs q))
                    go_wp2_with (at_builtin; refine wpList_append_lies _ rfl _ _ _ rfl w.heap.size 46 ti (.pointer none) 1 8 Tryd.underlying38 I1.out I2.out I3.out I4.out rfl (by omega) u7 fs.length (fs.map ptrOf) rfl PF.out.1 ⟨wr.heap.size + 1, 0, none⟩ 1 1 [.pointer (some ⟨wr.heap.size, 0, none⟩)] rfl rfl PF.out.2.1 PF.out.2.2.1 (by omega) (by simp [maxLen]; omega) (by omega) PF.out.2.2.2 (wr.heap.size + 1 + 1) (by simp) ?_)
                    intro g gc w3 hown hgrow hat hlt
                    have hpush := HRk.out.push p q (g := g) (gc := gc) (by rw [hfl]; exact hown) hgrow hat
                    rw [hfl] at hpush
                    have HPU := Lib.hid hpush
                    have q5 : w3.cell? ⟨ps i, 4, none⟩ = some (.int .i64 (off rs (en i))) := (hLI.out.below hpush.bel).row i him 4 _ rfl
                    have hEE := HE.out
                    rw [hEE] at q5
                    clear hown hgrow hat hlt hpush hEE
                    go_wp2_with fail
                    go_roundg (m - (i + 1))
                    case measure => omega
                    case rel =>
                      have hSS := HS.out
                      have hEE := HE.out
                      have hee := HE0.out
                      refine ⟨i + 1, fs ++ [(_, p, q)], by omega, rfl, rfl, ?_, by simp [hfl], HPU.out, ?_⟩
                      · have : mb en (i + 1) = E := by unfold mb; rw [if_neg (by omega)]; exact hEE
                        rw [this]
                      · refine Lib.hid (good_push (m := m) hfl HG.out _ ?_)
                        show Good size rs.length (st i) (en i) p q
                        rw [hSS, hEE]
                        unfold Good
                        omega
                  | succ k =>
                    obtain ⟨p', rfl⟩ : ∃ p', p = p' + 1 := ⟨p - 1, by omega⟩
                    obtain ⟨q', rfl⟩ : ∃ q', q = q' + 1 := ⟨q - 1, by omega⟩
                    have hlp := h.off_le (k := p' + 1) (by omega)
                    have hlq := h.off_le (k := q' + 1) (by omega)
                    go_wp2_with fail
                    refine (last_at (b := b) (cap := cap) h hn Jk.out hcap (by omega) (k := p') (by omega)).mono ?_
                    rintro e w1 ⟨r, d, hr, hd, rfl, hb1⟩
                    have hbeq : ((r : Int) == 65533) = false := by simpa using (by omega : ¬ (r : Int) = 65533)
                    have HRl := Lib.hid (HRk.out.step hb1)
                    have Jl := Lib.hid (Jk.out.below hb1)
                    clear hb1
                    go_wp2_with fail
                    refine (last_at (b := b) (cap := cap) h hn Jl.out hcap (by omega) (k := q') (by omega)).mono ?_
                    rintro e w2 ⟨r2, d2, hr2, hd2, rfl, hb2⟩
                    have hbeq2 : ((r2 : Int) == 65533) = false := by simpa using (by omega : ¬ (r2 : Int) = 65533)
                    have HRm := Lib.hid (HRl.out.step hb2)
                    clear hb2
                    go_wp2_with fail
                    go_roundg k
                    case measure => omega
                    case rel => exact ⟨p', q', k, by omega, rfl, by omega, by omega, by first | rfl | (congr 1; omega), by congr 1; omega, by congr 1; omega, HRm.out⟩
    · go_wp2_with fail
      rw [Exit.noGoto_ret]
      go_ret
      exact ⟨_, fs, rfl, hR.out, by omega, HG.out⟩
end Go.Proofs.YtbfelpgojgaeoaaDoor
