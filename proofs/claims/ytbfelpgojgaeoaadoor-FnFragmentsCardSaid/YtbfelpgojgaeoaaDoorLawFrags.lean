/- The walk of laws.FnFragments. -/
import Derived.Test.YtbfelpgojgaeoaaDoorImplFrags
import Derived.Test.YtbfelpgojgaeoaaDoorPlace
import Derived.Test.YtbfelpgojgaeoaaDoorHand
import Derived.Test.YtbfelpgojgaeoaaDoorShelfValid
import Derived.Lib.OthersKept
import Derived.Deep.CutBlock
import Derived.Deep.CutRange
import Derived.Deep.DeepCutAuto
import Derived.Deep.LoopGhost
set_option linter.unusedVariables false
set_option linter.unusedSimpArgs false
namespace Go.Proofs.YtbfelpgojgaeoaaDoor
open Go Go.RowKit

theorem valid_at (s : ByteArray) (v : Bool) (hv : Lib.validD s.data.toList = v) (hs : s.size ≤ 9223372036854775807) (w : World) (hT : Lib.Utf8Tabs 0 1 w) :
    Calls Tryd.prog 4 #[.string s] w fun e w' => e = .returned (.bool v) ∧ Below w.heap.size w w' := by
  rw [← hv]; exact Tryd.utf8_ValidString s w hs hT
theorem count_str (s : ByteArray) (k : Nat) (hk : Lib.runeCount s = k) (hs : s.size < 9223372036854775807) (w : World) :
    Calls Tryd.prog 8 #[.string s] w fun e w' => e = .returned (.int .i64 k) ∧ Below w.heap.size w w' := by
  refine (Tryd.utf8_RuneCountInString s w hs).mono ?_
  rintro e w' ⟨rfl, pos, rfl⟩
  exact ⟨by rw [hk], iter_below _ _ _⟩

theorem conv_u8 (sz : Nat) (h : sz < 256) (w : World) : (convert 5 3 (.int .u8 (sz : Int))).run Tryd.prog w = .ok (.int .i64 sz) w := by
  have hw : IntKind.i64.wrap (sz : Int) = sz := by simp [IntKind.wrap, IntKind.min, IntKind.max, IntKind.signed, IntKind.bits]; omega
  go_simp

set_option maxRecDepth 1000000 in
set_option maxHeartbeats 16000000 in
theorem law_frags (s : ByteArray) (sz : Nat) (hsz : sz < 256) (b o cap n : Nat) (ad : Option Addr) (xs : List (Int × Int)) (hn : xs.length = n) (had : n = 0 ∨ ad = some ⟨b, o, none⟩) (hcap : n ≤ cap) (hi64 : AllI64 xs) (w : World) (hT : Lib.Utf8Tabs 0 1 w) (hp : PairsAt w b o xs) :
    Calls Tryd.prog 3 #[.string s, .int .u8 sz, .slice ad n cap] w fun e w' => e = .returned (.bool true) ∧ Below w.heap.size w w' := by
  have HT := Lib.hid (fun (W : World) (hb : Below w.heap.size w W) => tabsBelow hb hT)
  have HP := Lib.hid (fun (W : World) (hb : Below w.heap.size w W) => hp.below hb)
  have AW := Lib.hid awake
  by_cases h1 : 2147483647 < s.size
  · go_enter Tryd.func3, Tryd.ntmps3
    go_wp2
    go_ret
    exact ⟨rfl, Below.refl _ _⟩
  by_cases h2 : 2147483647 < n
  · go_enter Tryd.func3, Tryd.ntmps3
    go_wp2
    go_ret
    exact ⟨rfl, Below.refl _ _⟩
  by_cases h3 : 300 < s.size
  · go_enter Tryd.func3, Tryd.ntmps3
    go_wp2_with fail
    refine (AW.out _).mono ?_
    rintro e w1 ⟨rfl, hb⟩
    go_wp2
    go_ret
    exact ⟨rfl, hb⟩
  obtain ⟨vb, hv⟩ : ∃ v, Lib.validD s.data.toList = v := ⟨_, rfl⟩
  have hva := Lib.hid (valid_at s vb hv (by omega))
  cases vb with
  | false =>
    go_enter Tryd.func3, Tryd.ntmps3
    go_wp2_with fail
    refine (hva.out w hT).mono ?_
    rintro e w1 ⟨rfl, hb⟩
    have HB := Lib.hid hb
    clear hb
    go_wp2_with fail
    refine (AW.out _).mono ?_
    rintro e w2 ⟨rfl, hb2⟩
    have HB2 := Lib.hid (HB.out.trans (hb2.mono HB.out.size))
    clear hb2
    go_wp2
    go_ret
    exact ⟨rfl, HB2.out⟩
  | true =>
    by_cases h4 : sz = 0 ∨ 200 < sz ∨ 20 < n
    · have hfin : Calls Tryd.prog 3 #[.string s, .int .u8 sz, .slice ad n cap] w fun e w' => e = .returned (.bool true) ∧ Below w.heap.size w w' := by
        by_cases h5 : sz = 0
        · subst h5
          go_enter Tryd.func3, Tryd.ntmps3
          go_wp2_with fail
          refine (hva.out w hT).mono ?_
          rintro e w1 ⟨rfl, hb⟩
          have HB := Lib.hid hb
          clear hb
          go_wp2_with fail
          refine (AW.out _).mono ?_
          rintro e w2 ⟨rfl, hb2⟩
          have HB2 := Lib.hid (HB.out.trans (hb2.mono HB.out.size))
          clear hb2
          go_wp2
          go_ret
          exact ⟨rfl, HB2.out⟩
        · have hz4 : (sz == 0) = false := by simpa using h5
          have hz5 : ((sz : Int) == 0) = false := by simpa using h5
          by_cases h6 : 200 < sz
          · clear h4
            go_enter Tryd.func3, Tryd.ntmps3
            go_wp2_with fail
            refine (hva.out w hT).mono ?_
            rintro e w1 ⟨rfl, hb⟩
            have HB := Lib.hid hb
            clear hb
            go_wp2_with fail
            refine (AW.out _).mono ?_
            rintro e w2 ⟨rfl, hb2⟩
            have HB2 := Lib.hid (HB.out.trans (hb2.mono HB.out.size))
            clear hb2
            go_wp2
            go_ret
            exact ⟨rfl, HB2.out⟩
          · have h7 : 20 < n := by omega
            clear h4
            go_enter Tryd.func3, Tryd.ntmps3
            go_wp2_with fail
            refine (hva.out w hT).mono ?_
            rintro e w1 ⟨rfl, hb⟩
            have HB := Lib.hid hb
            clear hb
            go_wp2_with fail
            refine (AW.out _).mono ?_
            rintro e w2 ⟨rfl, hb2⟩
            have HB2 := Lib.hid (HB.out.trans (hb2.mono HB.out.size))
            clear hb2
            go_wp2
            go_ret
            exact ⟨rfl, HB2.out⟩
      exact hfin
    obtain ⟨rs, hR⟩ := txt_of s hv
    obtain ⟨ob, hob⟩ : ∃ v, ordB s.size 0 xs = v := ⟨_, rfl⟩
    have hord := Lib.hid (fun (W : World) (hb : Below w.heap.size w W) => ordered b o cap n ad xs hn had (by omega) s.size W (hp.below hb))
    rw [hob] at hord
    have hz1 : ¬ sz = 0 := by omega
    have hz2 : ¬ 200 < sz := by omega
    have hz3 : ¬ 20 < n := by omega
    have hz4 : (sz == 0) = false := by simpa using hz1
    have hz5 : ((sz : Int) == 0) = false := by simpa using hz1
    clear h4
    go_enter Tryd.func3, Tryd.ntmps3
    go_wp2_with fail
    refine (hva.out w hT).mono ?_
    rintro e w1 ⟨rfl, hb⟩
    have HB1 := Lib.hid hb
    clear hb
    go_wp2_with fail
    refine (hord.out w1 HB1.out).mono ?_
    rintro e w2 ⟨rfl, d, rfl⟩
    have HB2 := Lib.hid (below_drewN HB1.out d)
    cases ob with
    | false =>
      go_wp2_with fail
      refine (AW.out _).mono ?_
      rintro e w3 ⟨rfl, hb2⟩
      have HB3 := Lib.hid (HB2.out.trans (hb2.mono HB2.out.size))
      clear hb2
      go_wp2
      go_ret
      exact ⟨rfl, HB3.out⟩
    | true =>
      generalize w1.drewN d = w2 at *
      clear hva hord HB1
      have HR := Lib.hid hR
      have HV := Lib.hid hv
      have HO := Lib.hid hob
      have HD := Lib.hid had
      have HI := Lib.hid hi64
      clear hR hv hob hT hp had hi64
      go_upto_region 5 with fail
      go_cut [51, 52] from 14 to 52 (fun s51 s52 wx => ∃ I, s52 = .pointer (some ⟨I, 0, none⟩) ∧ wx.heap[I]? = some (.stringIter s 0) ∧ w.heap.size ≤ I ∧ Below w.heap.size w wx)
      case first =>
        have hsz2 := HB2.out.size
        go_wp2_with fail
        go_meet
        case rel => exact ⟨w2.heap.size, rfl, World.iter_heap w2 s 0, hsz2, HB2.out.trans ((iter_below w2 s 0).mono hsz2)⟩
      case rest =>
        obtain ⟨I, rfl, hit, hIw, hb⟩ := hcut
        clear HB2
        have HIT := Lib.hid hit
        have HB := Lib.hid hb
        clear hit hb
        go_upto_block 0 with fail
        go_cut [8, 53, 54] (fun s8 s53 s54 wx => 65533 ∉ rs ∧ Below w.heap.size w wx)
        case first =>
          go_wp2_with fail
          go_loopg [8, 53, 54] rs.length (fun g s8 s53 s54 wx => ∃ k, k ≤ rs.length ∧ g = rs.length - k ∧ wx.heap[I]? = some (.stringIter s (off rs k)) ∧ Below w.heap.size w wx ∧ Hid (∀ j (h : j < rs.length), j < k → rs[j] ≠ 65533))
          case atStart => exact ⟨0, by omega, by omega, HIT.out, HB.out, Lib.hid (fun j h hj => by omega)⟩
          case round =>
            obtain ⟨k, hk, hg, hit, hb, HN⟩ := hrel
            by_cases hkn : k < rs.length
            · have hp : off rs k < s.size := by rw [HR.out.size]; exact (off_lt_iff HR.out.vs hk (Nat.le_refl _)).2 hkn
              have hnx : ∀ ty, (Instr.next (.pointer (some ⟨I, 0, none⟩)) true ty).run Tryd.prog wr = _ := fun ty => Lib.run_next_any_at wr I s (off rs k) ty hit hp
              have hlt := off_lt HR.out.vs hkn
              have hd := HR.out.dec hkn
              have hs : off rs k + (off rs (k + 1) - off rs k) = off rs (k + 1) := by omega
              have hit2 := Lib.iterAt_heap wr I s (off rs k) (off rs (k + 1)) hit
              have hb2 := Lib.below_iterAt hb (k := I) hIw s (off rs (k + 1))
              rw [hd] at hnx
              simp only [hs] at hnx
              generalize wr.iterAt I s (off rs (k + 1)) = W1 at *
              have HB1 := Lib.hid hb2
              have HIT2 := Lib.hid hit2
              obtain ⟨r, hr⟩ : ∃ r, rs[k] = r := ⟨_, rfl⟩
              rw [hr] at hnx
              have HRK := Lib.hid hr
              clear hit hb hb2 hit2 hd hs hlt hr hp
              by_cases hc : r = 65533
              · subst hc
                go_wp2_with fail
                refine (AW.out _).mono ?_
                rintro e w4 ⟨rfl, hb⟩
                have HB4 := Lib.hid (HB1.out.trans (hb.mono HB1.out.size))
                clear hb
                go_wp2_with fail
                go_ret
                exact ⟨rfl, HB4.out⟩
              · have hbeq : ((r : Int) == 65533) = false := by simpa using (by omega : ¬ (r : Int) = 65533)
                go_wp2_with fail
                go_roundg (rs.length - (k + 1))
                case measure => omega
                case rel =>
                  refine ⟨k + 1, by omega, rfl, HIT2.out, HB1.out, Lib.hid ?_⟩
                  intro j h hj
                  by_cases hjk : j = k
                  · subst hjk; rw [HRK.out]; exact hc
                  · exact HN.out j h (by omega)
            · have hp : ¬ off rs k < s.size := by rw [HR.out.size, off_lt_iff HR.out.vs hk (Nat.le_refl _)]; omega
              have hnx : ∀ ty, (Instr.next (.pointer (some ⟨I, 0, none⟩)) true ty).run Tryd.prog wr = _ := fun ty => Lib.run_next_end_at wr I s (off rs k) ty hit hp
              have HB1 := Lib.hid hb
              have hall : 65533 ∉ rs := by
                intro hm
                obtain ⟨j, hj, he⟩ := List.mem_iff_getElem.1 hm
                exact HN.out j hj (by omega) he
              have HAL := Lib.hid hall
              clear hit hb hall hp
              go_wp2_with fail
              go_meet
              case rel => exact ⟨HAL.out, HB1.out⟩
        case rest =>
          obtain ⟨hnr, hb⟩ := hcut
          have HN := Lib.hid hnr
          have HBB := Lib.hid hb
          clear hnr hb HIT HB hIw
          go_upto_block 2 with fail
          go_cut [9] (fun s9 wx => Hid (∀ j (h : j < xs.length), Whole2 s xs[j]) ∧ Below w.heap.size w wx)
          case first =>
            go_wp2_with fail
            go_loopg [9] n (fun g s9 wx => ∃ i : Nat, i ≤ n ∧ g = n - i ∧ s9 = .int .i64 i ∧ Below w.heap.size w wx ∧ Hid (∀ j (h : j < xs.length), j < i → Whole2 s xs[j]))
            case atStart => exact ⟨0, by omega, by omega, rfl, HBB.out, Lib.hid (fun j h hj => by omega)⟩
            case round =>
              obtain ⟨i, hi, hg, rfl, hb, HW⟩ := hrel
              by_cases him : i < n
              · have hix : i < xs.length := by omega
                have hadd : ad = some ⟨b, o, none⟩ := by rcases HD.out with h | h; omega; exact h
                subst hadd
                obtain ⟨A, hA⟩ : ∃ A, xs[i].1 = A := ⟨_, rfl⟩
                obtain ⟨B, hB⟩ : ∃ B, xs[i].2 = B := ⟨_, rfl⟩
                obtain ⟨q1, q2⟩ := (HP.out _ hb) i hix
                rw [hA] at q1
                rw [hB] at q2
                have HBr := Lib.hid (show Below w.heap.size w wr.drew from below_drewN hb 1)
                have S0 := Lib.hid (show wr.drew.cell? ⟨b, o + i * 2, none⟩ = some (.int .i64 A) ∧ wr.drew.cell? ⟨b, o + i * 2 + 1, none⟩ = some (.int .i64 B) from ⟨q1, q2⟩)
                have hin := ord_in s.size xs 0 HO.out i hix
                have HX := Lib.hid (show xs[i] = (A, B) by rw [← hA, ← hB])
                rw [hA, hB] at hin
                clear q1 q2 hA hB hb
                go_wp2_with fail
                refine wp_region_noPanic ?_
                refine wp_region_held_drew (S := (fun w' => w'.cell? ⟨b, o + i * 2, none⟩ = some (.int .i64 A) ∧ w'.cell? ⟨b, o + i * 2 + 1, none⟩ = some (.int .i64 B))) (by kernel_rfl) S0.out (fun hHeld => ?_)
                clear hHeld
                generalize wr.drew = W at *
                by_cases hBA : B < A
                · have hd : decide (B < A) = true := by simpa using hBA
                  refine takeH 65 (i := 0) (v := .slice (some ⟨b, o, none⟩) n cap) rfl (by kernel_rfl) (by kernel_rfl) (by kernel_rfl) (by kernel_rfl) (fun _ _ _ h => h) (Or.inl ⟨by kernel_rfl, fun _ _ => by kernel_rfl⟩) S0.out ?_
                  refine takeH 66 (i := 1) (v := .int .i64 i) rfl (by kernel_rfl) (by kernel_rfl) (by kernel_rfl) (by kernel_rfl) (fun _ _ _ h => h) (Or.inl ⟨by kernel_rfl, fun _ _ => by kernel_rfl⟩) S0.out ?_
                  refine takeH 67 (i := 2) (v := .pointer (some ⟨b, o + i * 2, none⟩)) rfl (by kernel_rfl) (by kernel_rfl) (by kernel_rfl) (by kernel_rfl) (fun _ _ _ h => h) (Or.inl ⟨by kernel_rfl, fun _ hS => exec_idx (cap := cap) (n := n) rfl (by kernel_rfl) (by kernel_rfl) him⟩) S0.out ?_
                  refine takeH 68 (i := 3) (v := .pointer (some ⟨b, o + i * 2, none⟩)) rfl (by kernel_rfl) (by kernel_rfl) (by kernel_rfl) (by kernel_rfl) (fun _ _ _ h => h) (Or.inl ⟨by kernel_rfl, fun _ hS => exec_arr0 rfl (by kernel_rfl)⟩) S0.out ?_
                  refine takeH 69 (i := 4) (v := .int .i64 A) rfl (by kernel_rfl) (by kernel_rfl) (by kernel_rfl) (by kernel_rfl) (fun _ _ _ h => h) (Or.inl ⟨by kernel_rfl, fun _ hS => exec_load3 rfl (by kernel_rfl) hS.1⟩) S0.out ?_
                  refine takeH 70 (i := 5) (v := .slice (some ⟨b, o, none⟩) n cap) rfl (by kernel_rfl) (by kernel_rfl) (by kernel_rfl) (by kernel_rfl) (fun _ _ _ h => h) (Or.inl ⟨by kernel_rfl, fun _ _ => by kernel_rfl⟩) S0.out ?_
                  refine takeH 71 (i := 6) (v := .int .i64 i) rfl (by kernel_rfl) (by kernel_rfl) (by kernel_rfl) (by kernel_rfl) (fun _ _ _ h => h) (Or.inl ⟨by kernel_rfl, fun _ _ => by kernel_rfl⟩) S0.out ?_
                  refine takeH 72 (i := 7) (v := .pointer (some ⟨b, o + i * 2, none⟩)) rfl (by kernel_rfl) (by kernel_rfl) (by kernel_rfl) (by kernel_rfl) (fun _ _ _ h => h) (Or.inl ⟨by kernel_rfl, fun _ hS => exec_idx (cap := cap) (n := n) rfl (by kernel_rfl) (by kernel_rfl) him⟩) S0.out ?_
                  refine takeH 73 (i := 8) (v := .pointer (some ⟨b, o + i * 2 + 1, none⟩)) rfl (by kernel_rfl) (by kernel_rfl) (by kernel_rfl) (by kernel_rfl) (fun _ _ _ h => h) (Or.inl ⟨by kernel_rfl, fun _ hS => exec_arr1 rfl (by kernel_rfl)⟩) S0.out ?_
                  refine takeH 74 (i := 9) (v := .int .i64 B) rfl (by kernel_rfl) (by kernel_rfl) (by kernel_rfl) (by kernel_rfl) (fun _ _ _ h => h) (Or.inl ⟨by kernel_rfl, fun _ hS => exec_load3 rfl (by kernel_rfl) hS.2⟩) S0.out ?_
                  refine takeH 75 (i := 10) (v := .bool true) rfl (by kernel_rfl) (by kernel_rfl) (by kernel_rfl) (by kernel_rfl) (fun _ _ _ h => h) (Or.inl ⟨by kernel_rfl, fun _ hS => yields_bool (x := decide (B < A)) (by kernel_rfl) hd⟩) S0.out ?_
                  refine takeH 76 (i := 11) (v := .bool true) rfl (by kernel_rfl) (by kernel_rfl) (by kernel_rfl) (by kernel_rfl) (fun _ _ _ h => h) (Or.inl ⟨by kernel_rfl, fun _ _ => by kernel_rfl⟩) S0.out ?_
                  refine takeH 77 (i := 12) (v := undef) rfl (by kernel_rfl) (by kernel_rfl) (by kernel_rfl) (by kernel_rfl) (fun _ _ _ h => h) (Or.inr ⟨by kernel_rfl, rfl⟩) S0.out ?_
                  refine takeH 78 (i := 13) (v := undef) rfl (by kernel_rfl) (by kernel_rfl) (by kernel_rfl) (by kernel_rfl) (fun _ _ _ h => h) (Or.inr ⟨by kernel_rfl, rfl⟩) S0.out ?_
                  refine takeH 79 (i := 14) (v := undef) rfl (by kernel_rfl) (by kernel_rfl) (by kernel_rfl) (by kernel_rfl) (fun _ _ _ h => h) (Or.inr ⟨by kernel_rfl, rfl⟩) S0.out ?_
                  refine takeH 80 (i := 15) (v := undef) rfl (by kernel_rfl) (by kernel_rfl) (by kernel_rfl) (by kernel_rfl) (fun _ _ _ h => h) (Or.inr ⟨by kernel_rfl, rfl⟩) S0.out ?_
                  refine takeH 81 (i := 16) (v := undef) rfl (by kernel_rfl) (by kernel_rfl) (by kernel_rfl) (by kernel_rfl) (fun _ _ _ h => h) (Or.inr ⟨by kernel_rfl, rfl⟩) S0.out ?_
                  refine takeH 82 (i := 17) (v := undef) rfl (by kernel_rfl) (by kernel_rfl) (by kernel_rfl) (by kernel_rfl) (fun _ _ _ h => h) (Or.inr ⟨by kernel_rfl, rfl⟩) S0.out ?_
                  refine takeH 83 (i := 18) (v := undef) rfl (by kernel_rfl) (by kernel_rfl) (by kernel_rfl) (by kernel_rfl) (fun _ _ _ h => h) (Or.inr ⟨by kernel_rfl, rfl⟩) S0.out ?_
                  refine takeH 84 (i := 19) (v := undef) rfl (by kernel_rfl) (by kernel_rfl) (by kernel_rfl) (by kernel_rfl) (fun _ _ _ h => h) (Or.inr ⟨by kernel_rfl, rfl⟩) S0.out ?_
                  refine takeH 85 (i := 20) (v := undef) rfl (by kernel_rfl) (by kernel_rfl) (by kernel_rfl) (by kernel_rfl) (fun _ _ _ h => h) (Or.inr ⟨by kernel_rfl, rfl⟩) S0.out ?_
                  refine takeH 86 (i := 21) (v := .bool true) rfl (by kernel_rfl) (by kernel_rfl) (by kernel_rfl) (by kernel_rfl) (fun _ _ _ h => h) (Or.inl ⟨by kernel_rfl, fun _ _ => by kernel_rfl⟩) S0.out ?_
                  refine takeH 87 (i := 22) (v := .bool true) rfl (by kernel_rfl) (by kernel_rfl) (by kernel_rfl) (by kernel_rfl) (fun _ _ _ h => h) (Or.inl ⟨by kernel_rfl, fun _ _ => by kernel_rfl⟩) S0.out ?_
                  refine takeH 88 (i := 23) (v := undef) rfl (by kernel_rfl) (by kernel_rfl) (by kernel_rfl) (by kernel_rfl) (fun _ _ _ h => h) (Or.inr ⟨by kernel_rfl, rfl⟩) S0.out ?_
                  refine takeH 89 (i := 24) (v := undef) rfl (by kernel_rfl) (by kernel_rfl) (by kernel_rfl) (by kernel_rfl) (fun _ _ _ h => h) (Or.inr ⟨by kernel_rfl, rfl⟩) S0.out ?_
                  refine takeH 90 (i := 25) (v := undef) rfl (by kernel_rfl) (by kernel_rfl) (by kernel_rfl) (by kernel_rfl) (fun _ _ _ h => h) (Or.inr ⟨by kernel_rfl, rfl⟩) S0.out ?_
                  refine takeH 91 (i := 26) (v := undef) rfl (by kernel_rfl) (by kernel_rfl) (by kernel_rfl) (by kernel_rfl) (fun _ _ _ h => h) (Or.inr ⟨by kernel_rfl, rfl⟩) S0.out ?_
                  refine takeH 92 (i := 27) (v := undef) rfl (by kernel_rfl) (by kernel_rfl) (by kernel_rfl) (by kernel_rfl) (fun _ _ _ h => h) (Or.inr ⟨by kernel_rfl, rfl⟩) S0.out ?_
                  refine takeH 93 (i := 28) (v := undef) rfl (by kernel_rfl) (by kernel_rfl) (by kernel_rfl) (by kernel_rfl) (fun _ _ _ h => h) (Or.inr ⟨by kernel_rfl, rfl⟩) S0.out ?_
                  refine takeH 94 (i := 29) (v := undef) rfl (by kernel_rfl) (by kernel_rfl) (by kernel_rfl) (by kernel_rfl) (fun _ _ _ h => h) (Or.inr ⟨by kernel_rfl, rfl⟩) S0.out ?_
                  refine takeH 95 (i := 30) (v := undef) rfl (by kernel_rfl) (by kernel_rfl) (by kernel_rfl) (by kernel_rfl) (fun _ _ _ h => h) (Or.inr ⟨by kernel_rfl, rfl⟩) S0.out ?_
                  refine takeH 96 (i := 31) (v := undef) rfl (by kernel_rfl) (by kernel_rfl) (by kernel_rfl) (by kernel_rfl) (fun _ _ _ h => h) (Or.inr ⟨by kernel_rfl, rfl⟩) S0.out ?_
                  refine takeH 97 (i := 32) (v := undef) rfl (by kernel_rfl) (by kernel_rfl) (by kernel_rfl) (by kernel_rfl) (fun _ _ _ h => h) (Or.inr ⟨by kernel_rfl, rfl⟩) S0.out ?_
                  refine takeH 98 (i := 33) (v := undef) rfl (by kernel_rfl) (by kernel_rfl) (by kernel_rfl) (by kernel_rfl) (fun _ _ _ h => h) (Or.inr ⟨by kernel_rfl, rfl⟩) S0.out ?_
                  refine takeH 99 (i := 34) (v := undef) rfl (by kernel_rfl) (by kernel_rfl) (by kernel_rfl) (by kernel_rfl) (fun _ _ _ h => h) (Or.inr ⟨by kernel_rfl, rfl⟩) S0.out ?_
                  refine takeH 100 (i := 35) (v := undef) rfl (by kernel_rfl) (by kernel_rfl) (by kernel_rfl) (by kernel_rfl) (fun _ _ _ h => h) (Or.inr ⟨by kernel_rfl, rfl⟩) S0.out ?_
                  refine takeH 101 (i := 36) (v := undef) rfl (by kernel_rfl) (by kernel_rfl) (by kernel_rfl) (by kernel_rfl) (fun _ _ _ h => h) (Or.inr ⟨by kernel_rfl, rfl⟩) S0.out ?_
                  refine takeH 102 (i := 37) (v := .bool true) rfl (by kernel_rfl) (by kernel_rfl) (by kernel_rfl) (by kernel_rfl) (fun _ _ _ h => h) (Or.inl ⟨by kernel_rfl, fun _ _ => by kernel_rfl⟩) S0.out ?_
                  refine wpAnyH_done (by kernel_rfl) ?_ _
                  refine NoPanic.normal ?_
                  simp only [Act.at_, List.setIfInBounds_toArray, List.set_cons_zero, List.set_cons_succ]
                  go_wp2_with fail
                  refine (AW.out _).mono ?_
                  rintro e w4 ⟨rfl, hb⟩
                  have HB4 := Lib.hid (HBr.out.trans (hb.mono HBr.out.size))
                  clear hb
                  go_wp2_with fail
                  go_ret
                  exact ⟨rfl, HB4.out⟩
                · have hd : decide (B < A) = false := by simpa using hBA
                  obtain ⟨hin1, hin2, hin3⟩ := hin (by omega)
                  obtain ⟨A0, rfl⟩ := Int.eq_ofNat_of_zero_le hin1
                  obtain ⟨B0, rfl⟩ := Int.eq_ofNat_of_zero_le (show 0 ≤ B by omega)
                  have hk1 : A0 ≤ s.size := by omega
                  have hk2 : A0 ≤ B0 := by omega
                  have hk3 : B0 ≤ s.size := by omega
                  obtain ⟨v1, hv1⟩ : ∃ v, Lib.validD (s.extract 0 A0).data.toList = v := ⟨_, rfl⟩
                  obtain ⟨v2, hv2⟩ : ∃ v, Lib.validD (s.extract A0 B0).data.toList = v := ⟨_, rfl⟩
                  have V1 := Lib.hid (valid_at (s.extract 0 A0) v1 hv1 (by rw [ByteArray.size_extract]; omega))
                  have V2 := Lib.hid (valid_at (s.extract A0 B0) v2 hv2 (by rw [ByteArray.size_extract]; omega))
                  cases v1 with
                  | false =>
                    refine takeH 65 (i := 0) (v := .slice (some ⟨b, o, none⟩) n cap) rfl (by kernel_rfl) (by kernel_rfl) (by kernel_rfl) (by kernel_rfl) (fun _ _ _ h => h) (Or.inl ⟨by kernel_rfl, fun _ _ => by kernel_rfl⟩) S0.out ?_
                    refine takeH 66 (i := 1) (v := .int .i64 i) rfl (by kernel_rfl) (by kernel_rfl) (by kernel_rfl) (by kernel_rfl) (fun _ _ _ h => h) (Or.inl ⟨by kernel_rfl, fun _ _ => by kernel_rfl⟩) S0.out ?_
                    refine takeH 67 (i := 2) (v := .pointer (some ⟨b, o + i * 2, none⟩)) rfl (by kernel_rfl) (by kernel_rfl) (by kernel_rfl) (by kernel_rfl) (fun _ _ _ h => h) (Or.inl ⟨by kernel_rfl, fun _ hS => exec_idx (cap := cap) (n := n) rfl (by kernel_rfl) (by kernel_rfl) him⟩) S0.out ?_
                    refine takeH 68 (i := 3) (v := .pointer (some ⟨b, o + i * 2, none⟩)) rfl (by kernel_rfl) (by kernel_rfl) (by kernel_rfl) (by kernel_rfl) (fun _ _ _ h => h) (Or.inl ⟨by kernel_rfl, fun _ hS => exec_arr0 rfl (by kernel_rfl)⟩) S0.out ?_
                    refine takeH 69 (i := 4) (v := .int .i64 (A0 : Int)) rfl (by kernel_rfl) (by kernel_rfl) (by kernel_rfl) (by kernel_rfl) (fun _ _ _ h => h) (Or.inl ⟨by kernel_rfl, fun _ hS => exec_load3 rfl (by kernel_rfl) hS.1⟩) S0.out ?_
                    refine takeH 70 (i := 5) (v := .slice (some ⟨b, o, none⟩) n cap) rfl (by kernel_rfl) (by kernel_rfl) (by kernel_rfl) (by kernel_rfl) (fun _ _ _ h => h) (Or.inl ⟨by kernel_rfl, fun _ _ => by kernel_rfl⟩) S0.out ?_
                    refine takeH 71 (i := 6) (v := .int .i64 i) rfl (by kernel_rfl) (by kernel_rfl) (by kernel_rfl) (by kernel_rfl) (fun _ _ _ h => h) (Or.inl ⟨by kernel_rfl, fun _ _ => by kernel_rfl⟩) S0.out ?_
                    refine takeH 72 (i := 7) (v := .pointer (some ⟨b, o + i * 2, none⟩)) rfl (by kernel_rfl) (by kernel_rfl) (by kernel_rfl) (by kernel_rfl) (fun _ _ _ h => h) (Or.inl ⟨by kernel_rfl, fun _ hS => exec_idx (cap := cap) (n := n) rfl (by kernel_rfl) (by kernel_rfl) him⟩) S0.out ?_
                    refine takeH 73 (i := 8) (v := .pointer (some ⟨b, o + i * 2 + 1, none⟩)) rfl (by kernel_rfl) (by kernel_rfl) (by kernel_rfl) (by kernel_rfl) (fun _ _ _ h => h) (Or.inl ⟨by kernel_rfl, fun _ hS => exec_arr1 rfl (by kernel_rfl)⟩) S0.out ?_
                    refine takeH 74 (i := 9) (v := .int .i64 (B0 : Int)) rfl (by kernel_rfl) (by kernel_rfl) (by kernel_rfl) (by kernel_rfl) (fun _ _ _ h => h) (Or.inl ⟨by kernel_rfl, fun _ hS => exec_load3 rfl (by kernel_rfl) hS.2⟩) S0.out ?_
                    refine takeH 75 (i := 10) (v := .bool false) rfl (by kernel_rfl) (by kernel_rfl) (by kernel_rfl) (by kernel_rfl) (fun _ _ _ h => h) (Or.inl ⟨by kernel_rfl, fun _ hS => yields_bool (x := decide ((B0 : Int) < (A0 : Int))) (by kernel_rfl) hd⟩) S0.out ?_
                    refine takeH 76 (i := 11) (v := .bool false) rfl (by kernel_rfl) (by kernel_rfl) (by kernel_rfl) (by kernel_rfl) (fun _ _ _ h => h) (Or.inl ⟨by kernel_rfl, fun _ _ => by kernel_rfl⟩) S0.out ?_
                    refine takeH 77 (i := 12) (v := .string s) rfl (by kernel_rfl) (by kernel_rfl) (by kernel_rfl) (by kernel_rfl) (fun _ _ _ h => h) (Or.inl ⟨by kernel_rfl, fun _ _ => by kernel_rfl⟩) S0.out ?_
                    refine takeH 78 (i := 13) (v := .slice (some ⟨b, o, none⟩) n cap) rfl (by kernel_rfl) (by kernel_rfl) (by kernel_rfl) (by kernel_rfl) (fun _ _ _ h => h) (Or.inl ⟨by kernel_rfl, fun _ _ => by kernel_rfl⟩) S0.out ?_
                    refine takeH 79 (i := 14) (v := .int .i64 i) rfl (by kernel_rfl) (by kernel_rfl) (by kernel_rfl) (by kernel_rfl) (fun _ _ _ h => h) (Or.inl ⟨by kernel_rfl, fun _ _ => by kernel_rfl⟩) S0.out ?_
                    refine takeH 80 (i := 15) (v := .pointer (some ⟨b, o + i * 2, none⟩)) rfl (by kernel_rfl) (by kernel_rfl) (by kernel_rfl) (by kernel_rfl) (fun _ _ _ h => h) (Or.inl ⟨by kernel_rfl, fun _ hS => exec_idx (cap := cap) (n := n) rfl (by kernel_rfl) (by kernel_rfl) him⟩) S0.out ?_
                    refine takeH 81 (i := 16) (v := .pointer (some ⟨b, o + i * 2, none⟩)) rfl (by kernel_rfl) (by kernel_rfl) (by kernel_rfl) (by kernel_rfl) (fun _ _ _ h => h) (Or.inl ⟨by kernel_rfl, fun _ hS => exec_arr0 rfl (by kernel_rfl)⟩) S0.out ?_
                    refine takeH 82 (i := 17) (v := .int .i64 (A0 : Int)) rfl (by kernel_rfl) (by kernel_rfl) (by kernel_rfl) (by kernel_rfl) (fun _ _ _ h => h) (Or.inl ⟨by kernel_rfl, fun _ hS => exec_load3 rfl (by kernel_rfl) hS.1⟩) S0.out ?_
                    refine takeH 83 (i := 18) (v := .string (s.extract 0 A0)) rfl (by kernel_rfl) (by kernel_rfl) (by kernel_rfl) (by kernel_rfl) (fun _ _ _ h => h) (Or.inl ⟨by kernel_rfl, fun _ hS => exec_cut0 rfl (by kernel_rfl) (by kernel_rfl) hk1⟩) S0.out ?_
                    refine callH 84 (i := 19) (f := 4) (args := #[.string (s.extract 0 A0)]) (by kernel_rfl) rfl (by kernel_rfl) (by kernel_rfl) (by kernel_rfl) ?_
                    refine (V1.out _ (HT.out _ HBr.out)).mono ?_
                    rintro e w5 ⟨rfl, hb⟩
                    have HB5 := Lib.hid (HBr.out.trans (hb.mono HBr.out.size))
                    have S5 := Lib.hid (And.intro (belowRow hb S0.out.1) (belowRow hb S0.out.2))
                    clear hb
                    refine ⟨_, rfl, S5.out, ?_⟩
                    refine takeH 85 (i := 20) (v := .bool true) rfl (by kernel_rfl) (by kernel_rfl) (by kernel_rfl) (by kernel_rfl) (fun _ _ _ h => h) (Or.inl ⟨by kernel_rfl, fun _ _ => by kernel_rfl⟩) S5.out ?_
                    refine takeH 86 (i := 21) (v := .bool true) rfl (by kernel_rfl) (by kernel_rfl) (by kernel_rfl) (by kernel_rfl) (fun _ _ _ h => h) (Or.inl ⟨by kernel_rfl, fun _ _ => by kernel_rfl⟩) S5.out ?_
                    refine takeH 87 (i := 22) (v := .bool true) rfl (by kernel_rfl) (by kernel_rfl) (by kernel_rfl) (by kernel_rfl) (fun _ _ _ h => h) (Or.inl ⟨by kernel_rfl, fun _ _ => by kernel_rfl⟩) S5.out ?_
                    refine takeH 88 (i := 23) (v := undef) rfl (by kernel_rfl) (by kernel_rfl) (by kernel_rfl) (by kernel_rfl) (fun _ _ _ h => h) (Or.inr ⟨by kernel_rfl, rfl⟩) S5.out ?_
                    refine takeH 89 (i := 24) (v := undef) rfl (by kernel_rfl) (by kernel_rfl) (by kernel_rfl) (by kernel_rfl) (fun _ _ _ h => h) (Or.inr ⟨by kernel_rfl, rfl⟩) S5.out ?_
                    refine takeH 90 (i := 25) (v := undef) rfl (by kernel_rfl) (by kernel_rfl) (by kernel_rfl) (by kernel_rfl) (fun _ _ _ h => h) (Or.inr ⟨by kernel_rfl, rfl⟩) S5.out ?_
                    refine takeH 91 (i := 26) (v := undef) rfl (by kernel_rfl) (by kernel_rfl) (by kernel_rfl) (by kernel_rfl) (fun _ _ _ h => h) (Or.inr ⟨by kernel_rfl, rfl⟩) S5.out ?_
                    refine takeH 92 (i := 27) (v := undef) rfl (by kernel_rfl) (by kernel_rfl) (by kernel_rfl) (by kernel_rfl) (fun _ _ _ h => h) (Or.inr ⟨by kernel_rfl, rfl⟩) S5.out ?_
                    refine takeH 93 (i := 28) (v := undef) rfl (by kernel_rfl) (by kernel_rfl) (by kernel_rfl) (by kernel_rfl) (fun _ _ _ h => h) (Or.inr ⟨by kernel_rfl, rfl⟩) S5.out ?_
                    refine takeH 94 (i := 29) (v := undef) rfl (by kernel_rfl) (by kernel_rfl) (by kernel_rfl) (by kernel_rfl) (fun _ _ _ h => h) (Or.inr ⟨by kernel_rfl, rfl⟩) S5.out ?_
                    refine takeH 95 (i := 30) (v := undef) rfl (by kernel_rfl) (by kernel_rfl) (by kernel_rfl) (by kernel_rfl) (fun _ _ _ h => h) (Or.inr ⟨by kernel_rfl, rfl⟩) S5.out ?_
                    refine takeH 96 (i := 31) (v := undef) rfl (by kernel_rfl) (by kernel_rfl) (by kernel_rfl) (by kernel_rfl) (fun _ _ _ h => h) (Or.inr ⟨by kernel_rfl, rfl⟩) S5.out ?_
                    refine takeH 97 (i := 32) (v := undef) rfl (by kernel_rfl) (by kernel_rfl) (by kernel_rfl) (by kernel_rfl) (fun _ _ _ h => h) (Or.inr ⟨by kernel_rfl, rfl⟩) S5.out ?_
                    refine takeH 98 (i := 33) (v := undef) rfl (by kernel_rfl) (by kernel_rfl) (by kernel_rfl) (by kernel_rfl) (fun _ _ _ h => h) (Or.inr ⟨by kernel_rfl, rfl⟩) S5.out ?_
                    refine takeH 99 (i := 34) (v := undef) rfl (by kernel_rfl) (by kernel_rfl) (by kernel_rfl) (by kernel_rfl) (fun _ _ _ h => h) (Or.inr ⟨by kernel_rfl, rfl⟩) S5.out ?_
                    refine takeH 100 (i := 35) (v := undef) rfl (by kernel_rfl) (by kernel_rfl) (by kernel_rfl) (by kernel_rfl) (fun _ _ _ h => h) (Or.inr ⟨by kernel_rfl, rfl⟩) S5.out ?_
                    refine takeH 101 (i := 36) (v := undef) rfl (by kernel_rfl) (by kernel_rfl) (by kernel_rfl) (by kernel_rfl) (fun _ _ _ h => h) (Or.inr ⟨by kernel_rfl, rfl⟩) S5.out ?_
                    refine takeH 102 (i := 37) (v := .bool true) rfl (by kernel_rfl) (by kernel_rfl) (by kernel_rfl) (by kernel_rfl) (fun _ _ _ h => h) (Or.inl ⟨by kernel_rfl, fun _ _ => by kernel_rfl⟩) S5.out ?_
                    refine wpAnyH_done (by kernel_rfl) ?_ _
                    refine NoPanic.normal ?_
                    simp only [Act.at_, List.setIfInBounds_toArray, List.set_cons_zero, List.set_cons_succ]
                    go_wp2_with fail
                    refine (AW.out _).mono ?_
                    rintro e w4 ⟨rfl, hb⟩
                    have HB4 := Lib.hid (HB5.out.trans (hb.mono HB5.out.size))
                    clear hb
                    go_wp2_with fail
                    go_ret
                    exact ⟨rfl, HB4.out⟩
                  | true =>
                    cases v2 with
                    | false =>
                      refine takeH 65 (i := 0) (v := .slice (some ⟨b, o, none⟩) n cap) rfl (by kernel_rfl) (by kernel_rfl) (by kernel_rfl) (by kernel_rfl) (fun _ _ _ h => h) (Or.inl ⟨by kernel_rfl, fun _ _ => by kernel_rfl⟩) S0.out ?_
                      refine takeH 66 (i := 1) (v := .int .i64 i) rfl (by kernel_rfl) (by kernel_rfl) (by kernel_rfl) (by kernel_rfl) (fun _ _ _ h => h) (Or.inl ⟨by kernel_rfl, fun _ _ => by kernel_rfl⟩) S0.out ?_
                      refine takeH 67 (i := 2) (v := .pointer (some ⟨b, o + i * 2, none⟩)) rfl (by kernel_rfl) (by kernel_rfl) (by kernel_rfl) (by kernel_rfl) (fun _ _ _ h => h) (Or.inl ⟨by kernel_rfl, fun _ hS => exec_idx (cap := cap) (n := n) rfl (by kernel_rfl) (by kernel_rfl) him⟩) S0.out ?_
                      refine takeH 68 (i := 3) (v := .pointer (some ⟨b, o + i * 2, none⟩)) rfl (by kernel_rfl) (by kernel_rfl) (by kernel_rfl) (by kernel_rfl) (fun _ _ _ h => h) (Or.inl ⟨by kernel_rfl, fun _ hS => exec_arr0 rfl (by kernel_rfl)⟩) S0.out ?_
                      refine takeH 69 (i := 4) (v := .int .i64 (A0 : Int)) rfl (by kernel_rfl) (by kernel_rfl) (by kernel_rfl) (by kernel_rfl) (fun _ _ _ h => h) (Or.inl ⟨by kernel_rfl, fun _ hS => exec_load3 rfl (by kernel_rfl) hS.1⟩) S0.out ?_
                      refine takeH 70 (i := 5) (v := .slice (some ⟨b, o, none⟩) n cap) rfl (by kernel_rfl) (by kernel_rfl) (by kernel_rfl) (by kernel_rfl) (fun _ _ _ h => h) (Or.inl ⟨by kernel_rfl, fun _ _ => by kernel_rfl⟩) S0.out ?_
                      refine takeH 71 (i := 6) (v := .int .i64 i) rfl (by kernel_rfl) (by kernel_rfl) (by kernel_rfl) (by kernel_rfl) (fun _ _ _ h => h) (Or.inl ⟨by kernel_rfl, fun _ _ => by kernel_rfl⟩) S0.out ?_
                      refine takeH 72 (i := 7) (v := .pointer (some ⟨b, o + i * 2, none⟩)) rfl (by kernel_rfl) (by kernel_rfl) (by kernel_rfl) (by kernel_rfl) (fun _ _ _ h => h) (Or.inl ⟨by kernel_rfl, fun _ hS => exec_idx (cap := cap) (n := n) rfl (by kernel_rfl) (by kernel_rfl) him⟩) S0.out ?_
                      refine takeH 73 (i := 8) (v := .pointer (some ⟨b, o + i * 2 + 1, none⟩)) rfl (by kernel_rfl) (by kernel_rfl) (by kernel_rfl) (by kernel_rfl) (fun _ _ _ h => h) (Or.inl ⟨by kernel_rfl, fun _ hS => exec_arr1 rfl (by kernel_rfl)⟩) S0.out ?_
                      refine takeH 74 (i := 9) (v := .int .i64 (B0 : Int)) rfl (by kernel_rfl) (by kernel_rfl) (by kernel_rfl) (by kernel_rfl) (fun _ _ _ h => h) (Or.inl ⟨by kernel_rfl, fun _ hS => exec_load3 rfl (by kernel_rfl) hS.2⟩) S0.out ?_
                      refine takeH 75 (i := 10) (v := .bool false) rfl (by kernel_rfl) (by kernel_rfl) (by kernel_rfl) (by kernel_rfl) (fun _ _ _ h => h) (Or.inl ⟨by kernel_rfl, fun _ hS => yields_bool (x := decide ((B0 : Int) < (A0 : Int))) (by kernel_rfl) hd⟩) S0.out ?_
                      refine takeH 76 (i := 11) (v := .bool false) rfl (by kernel_rfl) (by kernel_rfl) (by kernel_rfl) (by kernel_rfl) (fun _ _ _ h => h) (Or.inl ⟨by kernel_rfl, fun _ _ => by kernel_rfl⟩) S0.out ?_
                      refine takeH 77 (i := 12) (v := .string s) rfl (by kernel_rfl) (by kernel_rfl) (by kernel_rfl) (by kernel_rfl) (fun _ _ _ h => h) (Or.inl ⟨by kernel_rfl, fun _ _ => by kernel_rfl⟩) S0.out ?_
                      refine takeH 78 (i := 13) (v := .slice (some ⟨b, o, none⟩) n cap) rfl (by kernel_rfl) (by kernel_rfl) (by kernel_rfl) (by kernel_rfl) (fun _ _ _ h => h) (Or.inl ⟨by kernel_rfl, fun _ _ => by kernel_rfl⟩) S0.out ?_
                      refine takeH 79 (i := 14) (v := .int .i64 i) rfl (by kernel_rfl) (by kernel_rfl) (by kernel_rfl) (by kernel_rfl) (fun _ _ _ h => h) (Or.inl ⟨by kernel_rfl, fun _ _ => by kernel_rfl⟩) S0.out ?_
                      refine takeH 80 (i := 15) (v := .pointer (some ⟨b, o + i * 2, none⟩)) rfl (by kernel_rfl) (by kernel_rfl) (by kernel_rfl) (by kernel_rfl) (fun _ _ _ h => h) (Or.inl ⟨by kernel_rfl, fun _ hS => exec_idx (cap := cap) (n := n) rfl (by kernel_rfl) (by kernel_rfl) him⟩) S0.out ?_
                      refine takeH 81 (i := 16) (v := .pointer (some ⟨b, o + i * 2, none⟩)) rfl (by kernel_rfl) (by kernel_rfl) (by kernel_rfl) (by kernel_rfl) (fun _ _ _ h => h) (Or.inl ⟨by kernel_rfl, fun _ hS => exec_arr0 rfl (by kernel_rfl)⟩) S0.out ?_
                      refine takeH 82 (i := 17) (v := .int .i64 (A0 : Int)) rfl (by kernel_rfl) (by kernel_rfl) (by kernel_rfl) (by kernel_rfl) (fun _ _ _ h => h) (Or.inl ⟨by kernel_rfl, fun _ hS => exec_load3 rfl (by kernel_rfl) hS.1⟩) S0.out ?_
                      refine takeH 83 (i := 18) (v := .string (s.extract 0 A0)) rfl (by kernel_rfl) (by kernel_rfl) (by kernel_rfl) (by kernel_rfl) (fun _ _ _ h => h) (Or.inl ⟨by kernel_rfl, fun _ hS => exec_cut0 rfl (by kernel_rfl) (by kernel_rfl) hk1⟩) S0.out ?_
                      refine callH 84 (i := 19) (f := 4) (args := #[.string (s.extract 0 A0)]) (by kernel_rfl) rfl (by kernel_rfl) (by kernel_rfl) (by kernel_rfl) ?_
                      refine (V1.out _ (HT.out _ HBr.out)).mono ?_
                      rintro e w5 ⟨rfl, hb⟩
                      have HB5 := Lib.hid (HBr.out.trans (hb.mono HBr.out.size))
                      have S5 := Lib.hid (And.intro (belowRow hb S0.out.1) (belowRow hb S0.out.2))
                      clear hb
                      refine ⟨_, rfl, S5.out, ?_⟩
                      refine takeH 85 (i := 20) (v := .bool false) rfl (by kernel_rfl) (by kernel_rfl) (by kernel_rfl) (by kernel_rfl) (fun _ _ _ h => h) (Or.inl ⟨by kernel_rfl, fun _ _ => by kernel_rfl⟩) S5.out ?_
                      refine takeH 86 (i := 21) (v := .bool false) rfl (by kernel_rfl) (by kernel_rfl) (by kernel_rfl) (by kernel_rfl) (fun _ _ _ h => h) (Or.inl ⟨by kernel_rfl, fun _ _ => by kernel_rfl⟩) S5.out ?_
                      refine takeH 87 (i := 22) (v := .bool false) rfl (by kernel_rfl) (by kernel_rfl) (by kernel_rfl) (by kernel_rfl) (fun _ _ _ h => h) (Or.inl ⟨by kernel_rfl, fun _ _ => by kernel_rfl⟩) S5.out ?_
                      refine takeH 88 (i := 23) (v := .string s) rfl (by kernel_rfl) (by kernel_rfl) (by kernel_rfl) (by kernel_rfl) (fun _ _ _ h => h) (Or.inl ⟨by kernel_rfl, fun _ _ => by kernel_rfl⟩) S5.out ?_
                      refine takeH 89 (i := 24) (v := .slice (some ⟨b, o, none⟩) n cap) rfl (by kernel_rfl) (by kernel_rfl) (by kernel_rfl) (by kernel_rfl) (fun _ _ _ h => h) (Or.inl ⟨by kernel_rfl, fun _ _ => by kernel_rfl⟩) S5.out ?_
                      refine takeH 90 (i := 25) (v := .int .i64 i) rfl (by kernel_rfl) (by kernel_rfl) (by kernel_rfl) (by kernel_rfl) (fun _ _ _ h => h) (Or.inl ⟨by kernel_rfl, fun _ _ => by kernel_rfl⟩) S5.out ?_
                      refine takeH 91 (i := 26) (v := .pointer (some ⟨b, o + i * 2, none⟩)) rfl (by kernel_rfl) (by kernel_rfl) (by kernel_rfl) (by kernel_rfl) (fun _ _ _ h => h) (Or.inl ⟨by kernel_rfl, fun _ hS => exec_idx (cap := cap) (n := n) rfl (by kernel_rfl) (by kernel_rfl) him⟩) S5.out ?_
                      refine takeH 92 (i := 27) (v := .pointer (some ⟨b, o + i * 2, none⟩)) rfl (by kernel_rfl) (by kernel_rfl) (by kernel_rfl) (by kernel_rfl) (fun _ _ _ h => h) (Or.inl ⟨by kernel_rfl, fun _ hS => exec_arr0 rfl (by kernel_rfl)⟩) S5.out ?_
                      refine takeH 93 (i := 28) (v := .int .i64 (A0 : Int)) rfl (by kernel_rfl) (by kernel_rfl) (by kernel_rfl) (by kernel_rfl) (fun _ _ _ h => h) (Or.inl ⟨by kernel_rfl, fun _ hS => exec_load3 rfl (by kernel_rfl) hS.1⟩) S5.out ?_
                      refine takeH 94 (i := 29) (v := .slice (some ⟨b, o, none⟩) n cap) rfl (by kernel_rfl) (by kernel_rfl) (by kernel_rfl) (by kernel_rfl) (fun _ _ _ h => h) (Or.inl ⟨by kernel_rfl, fun _ _ => by kernel_rfl⟩) S5.out ?_
                      refine takeH 95 (i := 30) (v := .int .i64 i) rfl (by kernel_rfl) (by kernel_rfl) (by kernel_rfl) (by kernel_rfl) (fun _ _ _ h => h) (Or.inl ⟨by kernel_rfl, fun _ _ => by kernel_rfl⟩) S5.out ?_
                      refine takeH 96 (i := 31) (v := .pointer (some ⟨b, o + i * 2, none⟩)) rfl (by kernel_rfl) (by kernel_rfl) (by kernel_rfl) (by kernel_rfl) (fun _ _ _ h => h) (Or.inl ⟨by kernel_rfl, fun _ hS => exec_idx (cap := cap) (n := n) rfl (by kernel_rfl) (by kernel_rfl) him⟩) S5.out ?_
                      refine takeH 97 (i := 32) (v := .pointer (some ⟨b, o + i * 2 + 1, none⟩)) rfl (by kernel_rfl) (by kernel_rfl) (by kernel_rfl) (by kernel_rfl) (fun _ _ _ h => h) (Or.inl ⟨by kernel_rfl, fun _ hS => exec_arr1 rfl (by kernel_rfl)⟩) S5.out ?_
                      refine takeH 98 (i := 33) (v := .int .i64 (B0 : Int)) rfl (by kernel_rfl) (by kernel_rfl) (by kernel_rfl) (by kernel_rfl) (fun _ _ _ h => h) (Or.inl ⟨by kernel_rfl, fun _ hS => exec_load3 rfl (by kernel_rfl) hS.2⟩) S5.out ?_
                      refine takeH 99 (i := 34) (v := .string (s.extract A0 B0)) rfl (by kernel_rfl) (by kernel_rfl) (by kernel_rfl) (by kernel_rfl) (fun _ _ _ h => h) (Or.inl ⟨by kernel_rfl, fun _ hS => exec_cut rfl (by kernel_rfl) (by kernel_rfl) (by kernel_rfl) hk2 hk3⟩) S5.out ?_
                      refine callH 100 (i := 35) (f := 4) (args := #[.string (s.extract A0 B0)]) (by kernel_rfl) rfl (by kernel_rfl) (by kernel_rfl) (by kernel_rfl) ?_
                      refine (V2.out _ (HT.out _ HB5.out)).mono ?_
                      rintro e w6 ⟨rfl, hb⟩
                      have HB6 := Lib.hid (HB5.out.trans (hb.mono HB5.out.size))
                      have S6 := Lib.hid (And.intro (belowRow hb S5.out.1) (belowRow hb S5.out.2))
                      clear hb
                      refine ⟨_, rfl, S6.out, ?_⟩
                      refine takeH 101 (i := 36) (v := .bool true) rfl (by kernel_rfl) (by kernel_rfl) (by kernel_rfl) (by kernel_rfl) (fun _ _ _ h => h) (Or.inl ⟨by kernel_rfl, fun _ _ => by kernel_rfl⟩) S6.out ?_
                      refine takeH 102 (i := 37) (v := .bool true) rfl (by kernel_rfl) (by kernel_rfl) (by kernel_rfl) (by kernel_rfl) (fun _ _ _ h => h) (Or.inl ⟨by kernel_rfl, fun _ _ => by kernel_rfl⟩) S6.out ?_
                      refine wpAnyH_done (by kernel_rfl) ?_ _
                      refine NoPanic.normal ?_
                      simp only [Act.at_, List.setIfInBounds_toArray, List.set_cons_zero, List.set_cons_succ]
                      go_wp2_with fail
                      refine (AW.out _).mono ?_
                      rintro e w4 ⟨rfl, hb⟩
                      have HB4 := Lib.hid (HB6.out.trans (hb.mono HB6.out.size))
                      clear hb
                      go_wp2_with fail
                      go_ret
                      exact ⟨rfl, HB4.out⟩
                    | true =>
                      refine takeH 65 (i := 0) (v := .slice (some ⟨b, o, none⟩) n cap) rfl (by kernel_rfl) (by kernel_rfl) (by kernel_rfl) (by kernel_rfl) (fun _ _ _ h => h) (Or.inl ⟨by kernel_rfl, fun _ _ => by kernel_rfl⟩) S0.out ?_
                      refine takeH 66 (i := 1) (v := .int .i64 i) rfl (by kernel_rfl) (by kernel_rfl) (by kernel_rfl) (by kernel_rfl) (fun _ _ _ h => h) (Or.inl ⟨by kernel_rfl, fun _ _ => by kernel_rfl⟩) S0.out ?_
                      refine takeH 67 (i := 2) (v := .pointer (some ⟨b, o + i * 2, none⟩)) rfl (by kernel_rfl) (by kernel_rfl) (by kernel_rfl) (by kernel_rfl) (fun _ _ _ h => h) (Or.inl ⟨by kernel_rfl, fun _ hS => exec_idx (cap := cap) (n := n) rfl (by kernel_rfl) (by kernel_rfl) him⟩) S0.out ?_
                      refine takeH 68 (i := 3) (v := .pointer (some ⟨b, o + i * 2, none⟩)) rfl (by kernel_rfl) (by kernel_rfl) (by kernel_rfl) (by kernel_rfl) (fun _ _ _ h => h) (Or.inl ⟨by kernel_rfl, fun _ hS => exec_arr0 rfl (by kernel_rfl)⟩) S0.out ?_
                      refine takeH 69 (i := 4) (v := .int .i64 (A0 : Int)) rfl (by kernel_rfl) (by kernel_rfl) (by kernel_rfl) (by kernel_rfl) (fun _ _ _ h => h) (Or.inl ⟨by kernel_rfl, fun _ hS => exec_load3 rfl (by kernel_rfl) hS.1⟩) S0.out ?_
                      refine takeH 70 (i := 5) (v := .slice (some ⟨b, o, none⟩) n cap) rfl (by kernel_rfl) (by kernel_rfl) (by kernel_rfl) (by kernel_rfl) (fun _ _ _ h => h) (Or.inl ⟨by kernel_rfl, fun _ _ => by kernel_rfl⟩) S0.out ?_
                      refine takeH 71 (i := 6) (v := .int .i64 i) rfl (by kernel_rfl) (by kernel_rfl) (by kernel_rfl) (by kernel_rfl) (fun _ _ _ h => h) (Or.inl ⟨by kernel_rfl, fun _ _ => by kernel_rfl⟩) S0.out ?_
                      refine takeH 72 (i := 7) (v := .pointer (some ⟨b, o + i * 2, none⟩)) rfl (by kernel_rfl) (by kernel_rfl) (by kernel_rfl) (by kernel_rfl) (fun _ _ _ h => h) (Or.inl ⟨by kernel_rfl, fun _ hS => exec_idx (cap := cap) (n := n) rfl (by kernel_rfl) (by kernel_rfl) him⟩) S0.out ?_
                      refine takeH 73 (i := 8) (v := .pointer (some ⟨b, o + i * 2 + 1, none⟩)) rfl (by kernel_rfl) (by kernel_rfl) (by kernel_rfl) (by kernel_rfl) (fun _ _ _ h => h) (Or.inl ⟨by kernel_rfl, fun _ hS => exec_arr1 rfl (by kernel_rfl)⟩) S0.out ?_
                      refine takeH 74 (i := 9) (v := .int .i64 (B0 : Int)) rfl (by kernel_rfl) (by kernel_rfl) (by kernel_rfl) (by kernel_rfl) (fun _ _ _ h => h) (Or.inl ⟨by kernel_rfl, fun _ hS => exec_load3 rfl (by kernel_rfl) hS.2⟩) S0.out ?_
                      refine takeH 75 (i := 10) (v := .bool false) rfl (by kernel_rfl) (by kernel_rfl) (by kernel_rfl) (by kernel_rfl) (fun _ _ _ h => h) (Or.inl ⟨by kernel_rfl, fun _ hS => yields_bool (x := decide ((B0 : Int) < (A0 : Int))) (by kernel_rfl) hd⟩) S0.out ?_
                      refine takeH 76 (i := 11) (v := .bool false) rfl (by kernel_rfl) (by kernel_rfl) (by kernel_rfl) (by kernel_rfl) (fun _ _ _ h => h) (Or.inl ⟨by kernel_rfl, fun _ _ => by kernel_rfl⟩) S0.out ?_
                      refine takeH 77 (i := 12) (v := .string s) rfl (by kernel_rfl) (by kernel_rfl) (by kernel_rfl) (by kernel_rfl) (fun _ _ _ h => h) (Or.inl ⟨by kernel_rfl, fun _ _ => by kernel_rfl⟩) S0.out ?_
                      refine takeH 78 (i := 13) (v := .slice (some ⟨b, o, none⟩) n cap) rfl (by kernel_rfl) (by kernel_rfl) (by kernel_rfl) (by kernel_rfl) (fun _ _ _ h => h) (Or.inl ⟨by kernel_rfl, fun _ _ => by kernel_rfl⟩) S0.out ?_
                      refine takeH 79 (i := 14) (v := .int .i64 i) rfl (by kernel_rfl) (by kernel_rfl) (by kernel_rfl) (by kernel_rfl) (fun _ _ _ h => h) (Or.inl ⟨by kernel_rfl, fun _ _ => by kernel_rfl⟩) S0.out ?_
                      refine takeH 80 (i := 15) (v := .pointer (some ⟨b, o + i * 2, none⟩)) rfl (by kernel_rfl) (by kernel_rfl) (by kernel_rfl) (by kernel_rfl) (fun _ _ _ h => h) (Or.inl ⟨by kernel_rfl, fun _ hS => exec_idx (cap := cap) (n := n) rfl (by kernel_rfl) (by kernel_rfl) him⟩) S0.out ?_
                      refine takeH 81 (i := 16) (v := .pointer (some ⟨b, o + i * 2, none⟩)) rfl (by kernel_rfl) (by kernel_rfl) (by kernel_rfl) (by kernel_rfl) (fun _ _ _ h => h) (Or.inl ⟨by kernel_rfl, fun _ hS => exec_arr0 rfl (by kernel_rfl)⟩) S0.out ?_
                      refine takeH 82 (i := 17) (v := .int .i64 (A0 : Int)) rfl (by kernel_rfl) (by kernel_rfl) (by kernel_rfl) (by kernel_rfl) (fun _ _ _ h => h) (Or.inl ⟨by kernel_rfl, fun _ hS => exec_load3 rfl (by kernel_rfl) hS.1⟩) S0.out ?_
                      refine takeH 83 (i := 18) (v := .string (s.extract 0 A0)) rfl (by kernel_rfl) (by kernel_rfl) (by kernel_rfl) (by kernel_rfl) (fun _ _ _ h => h) (Or.inl ⟨by kernel_rfl, fun _ hS => exec_cut0 rfl (by kernel_rfl) (by kernel_rfl) hk1⟩) S0.out ?_
                      refine callH 84 (i := 19) (f := 4) (args := #[.string (s.extract 0 A0)]) (by kernel_rfl) rfl (by kernel_rfl) (by kernel_rfl) (by kernel_rfl) ?_
                      refine (V1.out _ (HT.out _ HBr.out)).mono ?_
                      rintro e w5 ⟨rfl, hb⟩
                      have HB5 := Lib.hid (HBr.out.trans (hb.mono HBr.out.size))
                      have S5 := Lib.hid (And.intro (belowRow hb S0.out.1) (belowRow hb S0.out.2))
                      clear hb
                      refine ⟨_, rfl, S5.out, ?_⟩
                      refine takeH 85 (i := 20) (v := .bool false) rfl (by kernel_rfl) (by kernel_rfl) (by kernel_rfl) (by kernel_rfl) (fun _ _ _ h => h) (Or.inl ⟨by kernel_rfl, fun _ _ => by kernel_rfl⟩) S5.out ?_
                      refine takeH 86 (i := 21) (v := .bool false) rfl (by kernel_rfl) (by kernel_rfl) (by kernel_rfl) (by kernel_rfl) (fun _ _ _ h => h) (Or.inl ⟨by kernel_rfl, fun _ _ => by kernel_rfl⟩) S5.out ?_
                      refine takeH 87 (i := 22) (v := .bool false) rfl (by kernel_rfl) (by kernel_rfl) (by kernel_rfl) (by kernel_rfl) (fun _ _ _ h => h) (Or.inl ⟨by kernel_rfl, fun _ _ => by kernel_rfl⟩) S5.out ?_
                      refine takeH 88 (i := 23) (v := .string s) rfl (by kernel_rfl) (by kernel_rfl) (by kernel_rfl) (by kernel_rfl) (fun _ _ _ h => h) (Or.inl ⟨by kernel_rfl, fun _ _ => by kernel_rfl⟩) S5.out ?_
                      refine takeH 89 (i := 24) (v := .slice (some ⟨b, o, none⟩) n cap) rfl (by kernel_rfl) (by kernel_rfl) (by kernel_rfl) (by kernel_rfl) (fun _ _ _ h => h) (Or.inl ⟨by kernel_rfl, fun _ _ => by kernel_rfl⟩) S5.out ?_
                      refine takeH 90 (i := 25) (v := .int .i64 i) rfl (by kernel_rfl) (by kernel_rfl) (by kernel_rfl) (by kernel_rfl) (fun _ _ _ h => h) (Or.inl ⟨by kernel_rfl, fun _ _ => by kernel_rfl⟩) S5.out ?_
                      refine takeH 91 (i := 26) (v := .pointer (some ⟨b, o + i * 2, none⟩)) rfl (by kernel_rfl) (by kernel_rfl) (by kernel_rfl) (by kernel_rfl) (fun _ _ _ h => h) (Or.inl ⟨by kernel_rfl, fun _ hS => exec_idx (cap := cap) (n := n) rfl (by kernel_rfl) (by kernel_rfl) him⟩) S5.out ?_
                      refine takeH 92 (i := 27) (v := .pointer (some ⟨b, o + i * 2, none⟩)) rfl (by kernel_rfl) (by kernel_rfl) (by kernel_rfl) (by kernel_rfl) (fun _ _ _ h => h) (Or.inl ⟨by kernel_rfl, fun _ hS => exec_arr0 rfl (by kernel_rfl)⟩) S5.out ?_
                      refine takeH 93 (i := 28) (v := .int .i64 (A0 : Int)) rfl (by kernel_rfl) (by kernel_rfl) (by kernel_rfl) (by kernel_rfl) (fun _ _ _ h => h) (Or.inl ⟨by kernel_rfl, fun _ hS => exec_load3 rfl (by kernel_rfl) hS.1⟩) S5.out ?_
                      refine takeH 94 (i := 29) (v := .slice (some ⟨b, o, none⟩) n cap) rfl (by kernel_rfl) (by kernel_rfl) (by kernel_rfl) (by kernel_rfl) (fun _ _ _ h => h) (Or.inl ⟨by kernel_rfl, fun _ _ => by kernel_rfl⟩) S5.out ?_
                      refine takeH 95 (i := 30) (v := .int .i64 i) rfl (by kernel_rfl) (by kernel_rfl) (by kernel_rfl) (by kernel_rfl) (fun _ _ _ h => h) (Or.inl ⟨by kernel_rfl, fun _ _ => by kernel_rfl⟩) S5.out ?_
                      refine takeH 96 (i := 31) (v := .pointer (some ⟨b, o + i * 2, none⟩)) rfl (by kernel_rfl) (by kernel_rfl) (by kernel_rfl) (by kernel_rfl) (fun _ _ _ h => h) (Or.inl ⟨by kernel_rfl, fun _ hS => exec_idx (cap := cap) (n := n) rfl (by kernel_rfl) (by kernel_rfl) him⟩) S5.out ?_
                      refine takeH 97 (i := 32) (v := .pointer (some ⟨b, o + i * 2 + 1, none⟩)) rfl (by kernel_rfl) (by kernel_rfl) (by kernel_rfl) (by kernel_rfl) (fun _ _ _ h => h) (Or.inl ⟨by kernel_rfl, fun _ hS => exec_arr1 rfl (by kernel_rfl)⟩) S5.out ?_
                      refine takeH 98 (i := 33) (v := .int .i64 (B0 : Int)) rfl (by kernel_rfl) (by kernel_rfl) (by kernel_rfl) (by kernel_rfl) (fun _ _ _ h => h) (Or.inl ⟨by kernel_rfl, fun _ hS => exec_load3 rfl (by kernel_rfl) hS.2⟩) S5.out ?_
                      refine takeH 99 (i := 34) (v := .string (s.extract A0 B0)) rfl (by kernel_rfl) (by kernel_rfl) (by kernel_rfl) (by kernel_rfl) (fun _ _ _ h => h) (Or.inl ⟨by kernel_rfl, fun _ hS => exec_cut rfl (by kernel_rfl) (by kernel_rfl) (by kernel_rfl) hk2 hk3⟩) S5.out ?_
                      refine callH 100 (i := 35) (f := 4) (args := #[.string (s.extract A0 B0)]) (by kernel_rfl) rfl (by kernel_rfl) (by kernel_rfl) (by kernel_rfl) ?_
                      refine (V2.out _ (HT.out _ HB5.out)).mono ?_
                      rintro e w6 ⟨rfl, hb⟩
                      have HB6 := Lib.hid (HB5.out.trans (hb.mono HB5.out.size))
                      have S6 := Lib.hid (And.intro (belowRow hb S5.out.1) (belowRow hb S5.out.2))
                      clear hb
                      refine ⟨_, rfl, S6.out, ?_⟩
                      refine takeH 101 (i := 36) (v := .bool false) rfl (by kernel_rfl) (by kernel_rfl) (by kernel_rfl) (by kernel_rfl) (fun _ _ _ h => h) (Or.inl ⟨by kernel_rfl, fun _ _ => by kernel_rfl⟩) S6.out ?_
                      refine takeH 102 (i := 37) (v := .bool false) rfl (by kernel_rfl) (by kernel_rfl) (by kernel_rfl) (by kernel_rfl) (fun _ _ _ h => h) (Or.inl ⟨by kernel_rfl, fun _ _ => by kernel_rfl⟩) S6.out ?_
                      refine wpAnyH_done (by kernel_rfl) ?_ _
                      refine NoPanic.normal ?_
                      simp only [Act.at_, List.setIfInBounds_toArray, List.set_cons_zero, List.set_cons_succ]
                      go_wp2_with fail
                      go_roundg (n - (i + 1))
                      case measure => omega
                      case rel =>
                        refine ⟨i + 1, by omega, rfl, rfl, HB6.out, Lib.hid ?_⟩
                        intro j h hj
                        by_cases hji : j = i
                        · subst hji
                          rw [HX.out]
                          exact ⟨by show (A0 : Int) ≤ (B0 : Int); omega, by simpa using hv1, by simpa using hv2⟩
                        · exact HW.out j h (by omega)
              · have HBe := Lib.hid hb
                have hall : ∀ j (h : j < xs.length), Whole2 s xs[j] := fun j h => HW.out j h (by omega)
                have HAL := Lib.hid hall
                clear hb hall
                go_wp2_with fail
                go_meet
                case rel => exact ⟨HAL, HBe.out⟩
          case rest =>
            obtain ⟨HWH, hb⟩ := hcut
            have HB2 := Lib.hid hb
            clear hb HBB
            obtain ⟨st, en, hOr, hx⟩ := places HR.out xs HO.out HWH.out
            rw [hn] at hOr
            have hx' : ∀ i (h : i < xs.length), xs[i] = ((off rs (st i) : Int), (off rs (en i) : Int)) ∧ off rs (st i) ≤ off rs (en i) ∧ off rs (en i) ≤ 2147483647 := fun i h => by
              obtain ⟨g1, g2, g3⟩ := hx i h
              exact ⟨g1, g2, by omega⟩
            have C7 := Lib.hid (impl_frags s rs HR.out HN.out sz n st en (by omega) (by omega) (by omega) hOr b o cap ad xs hn HD.out hcap hx' wc (HT.out _ HB2.out) (HP.out _ HB2.out))
            have HOR := Lib.hid hOr
            have HCV := Lib.hid (conv_u8 sz hsz)
            have HXX := Lib.hid hx
            have hwz : IntKind.i64.wrap (sz : Int) = sz := by simp [IntKind.wrap, IntKind.min, IntKind.max, IntKind.signed, IntKind.bits]; omega
            clear hOr hx hx' HWH
            go_wp2_with fail
            refine C7.out.mono ?_
            rintro e w3 ⟨g, gc, fs, rfl, hPr, hG, hb⟩
            have HB3 := Lib.hid (HB2.out.trans (hb.mono HB2.out.size))
            have HPR := Lib.hid hPr
            have HG := Lib.hid hG
            obtain ⟨k, hk⟩ : ∃ k, List.length fs = k := ⟨_, rfl⟩
            have hkm : k = max n 1 := by rw [← hk]; exact hG.len
            have HK := Lib.hid hk
            have HKM := Lib.hid hkm
            have hkb : k ≤ 20 := by omega
            have hne1 : ((k : Int) != max (n : Int) 1) = false := by simp; omega
            have hne2 : (k != max n 1) = false := by simp; omega
            rw [hk]
            clear hPr hG hb hk C7 hkm
            go_upto_block 4 with fail
            go_cut [11, 12, 13] (fun s11 s12 s13 wx => Below w3.heap.size w3 wx)
            case first =>
              go_wp2_with fail
              go_loopg [11, 12, 13] k (fun gh s11 s12 s13 wx => ∃ i : Nat, i ≤ k ∧ gh = k - i ∧ s11 = .int .i64 i ∧ Below w3.heap.size w3 wx)
              case atStart => exact ⟨0, by omega, by omega, rfl, Below.refl _ _⟩
              case round =>
                obtain ⟨i, hi, hgk, rfl, hb⟩ := hrel
                by_cases hik : i < k
                · have hif : i < fs.length := by have := HK.out; omega
                  have hil : i < (List.map (prOf rs) fs).length := by rw [List.length_map]; exact hif
                  obtain ⟨q1, q2⟩ := (HPR.out.below hb) i hil
                  have hxy : prOf rs fs[i] = ((off rs fs[i].2.1 : Int), (off rs fs[i].2.2 : Int)) := rfl
                  rw [List.getElem_map, hxy] at q1 q2
                  have hfine : fs[i].2.1 ≤ fs[i].2.2 ∧ fs[i].2.2 ≤ rs.length ∧ fs[i].2.2 - fs[i].2.1 ≤ sz := by
                    by_cases h0 : i < n
                    · obtain ⟨g1, g2, g3, _⟩ := HG.out.good i _ (List.getElem?_eq_getElem hif) h0
                      exact ⟨g1, g2, g3⟩
                    · have hkm := HKM.out
                      obtain ⟨g1, g2⟩ := HG.out.none (by omega) _ (List.getElem_mem hif)
                      rw [g1, g2]; omega
                  have hgood : i < n → Good sz rs.length (st i) (en i) fs[i].2.1 fs[i].2.2 := fun h0 => HG.out.good i _ (List.getElem?_eq_getElem hif) h0
                  obtain ⟨X, hX⟩ : ∃ X, fs[i].2.1 = X := ⟨_, rfl⟩
                  obtain ⟨Y, hY⟩ : ∃ Y, fs[i].2.2 = Y := ⟨_, rfl⟩
                  rw [hX, hY] at hfine hgood
                  rw [hX] at q1
                  rw [hY] at q2
                  simp only [] at q1 q2
                  obtain ⟨hf1, hf2, hf3⟩ := hfine
                  have hoY := HR.out.off_le hf2
                  have hoX := off_mono HR.out.vs hf1 hf2
                  have ev1 := HR.out.valid (i := 0) (j := X) (Nat.zero_le _) (by omega)
                  rw [off_zero] at ev1
                  have ev2 := HR.out.valid hf1 hf2
                  have ev3 := HR.out.count hf1 hf2
                  have U1 := Lib.hid (valid_at (s.extract 0 (off rs X)) true ev1 (by rw [ByteArray.size_extract]; omega))
                  have U2 := Lib.hid (valid_at (s.extract (off rs X) (off rs Y)) true ev2 (by rw [ByteArray.size_extract]; omega))
                  have U3 := Lib.hid (count_str (s.extract (off rs X) (off rs Y)) (Y - X) ev3 (by rw [ByteArray.size_extract]; omega))
                  have GD := Lib.hid hgood
                  have S0 := Lib.hid (show wr.drew.cell? ⟨g, 0 + i * 2, none⟩ = some (.int .i64 (off rs X)) ∧ wr.drew.cell? ⟨g, 0 + i * 2 + 1, none⟩ = some (.int .i64 (off rs Y)) from ⟨q1, q2⟩)
                  have HBr := Lib.hid (show Below w3.heap.size w3 wr.drew from below_drewN hb 1)
                  clear q1 q2 hX hY hxy hgood ev1 ev2 ev3 hb
                  go_wp2_with fail
                  refine wp_region_noPanic ?_
                  refine wp_region_held_drew (S := (fun w' => w'.cell? ⟨g, 0 + i * 2, none⟩ = some (.int .i64 (off rs X)) ∧ w'.cell? ⟨g, 0 + i * 2 + 1, none⟩ = some (.int .i64 (off rs Y)))) (by kernel_rfl) S0.out (fun hHeld => ?_)
                  clear hHeld
                  generalize wr.drew = W at *
                  refine takeH 121 (i := 0) (v := .slice (some ⟨g, 0, none⟩) k gc) rfl (by kernel_rfl) (by kernel_rfl) (by kernel_rfl) (by kernel_rfl) (fun _ _ _ h => h) (Or.inl ⟨by kernel_rfl, fun _ _ => by kernel_rfl⟩) S0.out ?_
                  refine takeH 122 (i := 1) (v := .int .i64 i) rfl (by kernel_rfl) (by kernel_rfl) (by kernel_rfl) (by kernel_rfl) (fun _ _ _ h => h) (Or.inl ⟨by kernel_rfl, fun _ _ => by kernel_rfl⟩) S0.out ?_
                  refine takeH 123 (i := 2) (v := .pointer (some ⟨g, 0 + i * 2, none⟩)) rfl (by kernel_rfl) (by kernel_rfl) (by kernel_rfl) (by kernel_rfl) (fun _ _ _ h => h) (Or.inl ⟨by kernel_rfl, fun _ hS => exec_idx (cap := gc) (n := k) rfl (by kernel_rfl) (by kernel_rfl) hik⟩) S0.out ?_
                  refine takeH 124 (i := 3) (v := .pointer (some ⟨g, 0 + i * 2, none⟩)) rfl (by kernel_rfl) (by kernel_rfl) (by kernel_rfl) (by kernel_rfl) (fun _ _ _ h => h) (Or.inl ⟨by kernel_rfl, fun _ hS => exec_arr0 rfl (by kernel_rfl)⟩) S0.out ?_
                  refine takeH 125 (i := 4) (v := .int .i64 (off rs X)) rfl (by kernel_rfl) (by kernel_rfl) (by kernel_rfl) (by kernel_rfl) (fun _ _ _ h => h) (Or.inl ⟨by kernel_rfl, fun _ hS => exec_load3 rfl (by kernel_rfl) hS.1⟩) S0.out ?_
                  refine takeH 126 (i := 5) (v := .slice (some ⟨g, 0, none⟩) k gc) rfl (by kernel_rfl) (by kernel_rfl) (by kernel_rfl) (by kernel_rfl) (fun _ _ _ h => h) (Or.inl ⟨by kernel_rfl, fun _ _ => by kernel_rfl⟩) S0.out ?_
                  refine takeH 127 (i := 6) (v := .int .i64 i) rfl (by kernel_rfl) (by kernel_rfl) (by kernel_rfl) (by kernel_rfl) (fun _ _ _ h => h) (Or.inl ⟨by kernel_rfl, fun _ _ => by kernel_rfl⟩) S0.out ?_
                  refine takeH 128 (i := 7) (v := .pointer (some ⟨g, 0 + i * 2, none⟩)) rfl (by kernel_rfl) (by kernel_rfl) (by kernel_rfl) (by kernel_rfl) (fun _ _ _ h => h) (Or.inl ⟨by kernel_rfl, fun _ hS => exec_idx (cap := gc) (n := k) rfl (by kernel_rfl) (by kernel_rfl) hik⟩) S0.out ?_
                  refine takeH 129 (i := 8) (v := .pointer (some ⟨g, 0 + i * 2 + 1, none⟩)) rfl (by kernel_rfl) (by kernel_rfl) (by kernel_rfl) (by kernel_rfl) (fun _ _ _ h => h) (Or.inl ⟨by kernel_rfl, fun _ hS => exec_arr1 rfl (by kernel_rfl)⟩) S0.out ?_
                  refine takeH 130 (i := 9) (v := .int .i64 (off rs Y)) rfl (by kernel_rfl) (by kernel_rfl) (by kernel_rfl) (by kernel_rfl) (fun _ _ _ h => h) (Or.inl ⟨by kernel_rfl, fun _ hS => exec_load3 rfl (by kernel_rfl) hS.2⟩) S0.out ?_
                  refine takeH 12 (i := 10) (v := .int .i64 (off rs X)) rfl (by kernel_rfl) (by kernel_rfl) (by kernel_rfl) (by kernel_rfl) (fun _ _ _ h => h) (Or.inl ⟨by kernel_rfl, fun _ _ => by kernel_rfl⟩) S0.out ?_
                  refine takeH 13 (i := 11) (v := .int .i64 (off rs Y)) rfl (by kernel_rfl) (by kernel_rfl) (by kernel_rfl) (by kernel_rfl) (fun _ _ _ h => h) (Or.inl ⟨by kernel_rfl, fun _ _ => by kernel_rfl⟩) S0.out ?_
                  refine wpAnyH_done (by kernel_rfl) ?_ _
                  refine NoPanic.normal ?_
                  simp only [Act.at_, List.setIfInBounds_toArray, List.set_cons_zero, List.set_cons_succ]
                  go_wp2_with fail
                  refine (U1.out _ (HT.out _ (HB3.out.trans (HBr.out.mono HB3.out.size)))).mono ?_
                  rintro e w4 ⟨rfl, hb⟩
                  have HB4 := Lib.hid (HBr.out.trans (hb.mono HBr.out.size))
                  clear hb
                  go_wp2_with fail
                  refine (U2.out _ (HT.out _ (HB3.out.trans (HB4.out.mono HB3.out.size)))).mono ?_
                  rintro e w5 ⟨rfl, hb⟩
                  have HB5 := Lib.hid (HB4.out.trans (hb.mono HB4.out.size))
                  clear hb
                  go_wp2_with fail
                  refine (U3.out _).mono ?_
                  rintro e w6 ⟨rfl, hb⟩
                  have HB6 := Lib.hid (HB5.out.trans (hb.mono HB5.out.size))
                  clear hb
                  go_wp2_with fail
                  clear U1 U2 U3 HBr HB4 HB5 S0 hf1 hf2 hf3 hoX
                  by_cases h0 : i < n
                  · have hix : i < xs.length := by omega
                    have hadd : ad = some ⟨b, o, none⟩ := by rcases HD.out with h | h; omega; exact h
                    subst hadd
                    obtain ⟨hx1, hx2, hx3⟩ := HXX.out i hix
                    obtain ⟨q1, q2⟩ := (HP.out _ (HB3.out.trans (HB6.out.mono HB3.out.size))) i hix
                    rw [hx1] at q1 q2
                    simp only [] at q1 q2
                    obtain ⟨hSE, hEn⟩ := HOR.out.le i h0
                    obtain ⟨r1, r2, r3, r4, r5⟩ := Good.off HR.out hSE hEn (GD.out h0)
                    have ev := HR.out.count (Nat.le_of_lt hSE) hEn
                    obtain ⟨SS, hSS⟩ : ∃ S, st i = S := ⟨_, rfl⟩
                    obtain ⟨E, hE⟩ : ∃ E, en i = E := ⟨_, rfl⟩
                    rw [hSS] at q1 hx2 hSE r4 r5 ev
                    rw [hE] at q2 hx2 hx3 hSE hEn r5 ev
                    have U4 := Lib.hid (count_str (s.extract (off rs SS) (off rs E)) (E - SS) ev (by rw [ByteArray.size_extract]; omega))
                    have S0 := Lib.hid (show w6.drew.cell? ⟨b, o + i * 2, none⟩ = some (.int .i64 (off rs SS)) ∧ w6.drew.cell? ⟨b, o + i * 2 + 1, none⟩ = some (.int .i64 (off rs E)) from ⟨q1, q2⟩)
                    have HBr := Lib.hid (show Below w3.heap.size w3 w6.drew from below_drewN HB6.out 1)
                    have hd0 : decide ((i : Int) < (n : Int)) = true := by simpa using h0
                    have hd1 : decide ((off rs SS : Int) < (off rs X : Int)) = false := by simp; omega
                    clear q1 q2 ev hx1 hSS hE r1 r2 r3 r4
                    by_cases hYE : off rs Y < off rs E
                    · have hd2 : decide ((off rs Y : Int) < (off rs E : Int)) = true := by simpa using hYE
                      have hgt := r5 hYE
                      have hd3 : decide ((((E - SS : Nat) : Int)) ≤ (sz : Int)) = false := by simp; omega
                      refine wp_region_noPanic ?_
                      refine wp_region_held_drew (S := (fun w' => w'.cell? ⟨b, o + i * 2, none⟩ = some (.int .i64 (off rs SS)) ∧ w'.cell? ⟨b, o + i * 2 + 1, none⟩ = some (.int .i64 (off rs E)))) (by kernel_rfl) S0.out (fun hHeld => ?_)
                      clear hHeld
                      generalize w6.drew = W at *
                      refine takeH 169 (i := 0) (v := .int .i64 i) rfl (by kernel_rfl) (by kernel_rfl) (by kernel_rfl) (by kernel_rfl) (fun _ _ _ h => h) (Or.inl ⟨by kernel_rfl, fun _ _ => by kernel_rfl⟩) S0.out ?_
                      refine takeH 170 (i := 1) (v := .slice (some ⟨b, o, none⟩) n cap) rfl (by kernel_rfl) (by kernel_rfl) (by kernel_rfl) (by kernel_rfl) (fun _ _ _ h => h) (Or.inl ⟨by kernel_rfl, fun _ _ => by kernel_rfl⟩) S0.out ?_
                      refine takeH 171 (i := 2) (v := .int .i64 n) rfl (by kernel_rfl) (by kernel_rfl) (by kernel_rfl) (by kernel_rfl) (fun _ _ _ h => h) (Or.inl ⟨by kernel_rfl, fun _ _ => by kernel_rfl⟩) S0.out ?_
                      refine takeH 172 (i := 3) (v := .bool true) rfl (by kernel_rfl) (by kernel_rfl) (by kernel_rfl) (by kernel_rfl) (fun _ _ _ h => h) (Or.inl ⟨by kernel_rfl, fun _ hS => yields_bool (x := decide ((i : Int) < (n : Int))) (by kernel_rfl) hd0⟩) S0.out ?_
                      refine takeH 173 (i := 4) (v := .bool true) rfl (by kernel_rfl) (by kernel_rfl) (by kernel_rfl) (by kernel_rfl) (fun _ _ _ h => h) (Or.inl ⟨by kernel_rfl, fun _ _ => by kernel_rfl⟩) S0.out ?_
                      refine takeH 174 (i := 5) (v := .int .i64 (off rs X)) rfl (by kernel_rfl) (by kernel_rfl) (by kernel_rfl) (by kernel_rfl) (fun _ _ _ h => h) (Or.inl ⟨by kernel_rfl, fun _ _ => by kernel_rfl⟩) S0.out ?_
                      refine takeH 175 (i := 6) (v := .slice (some ⟨b, o, none⟩) n cap) rfl (by kernel_rfl) (by kernel_rfl) (by kernel_rfl) (by kernel_rfl) (fun _ _ _ h => h) (Or.inl ⟨by kernel_rfl, fun _ _ => by kernel_rfl⟩) S0.out ?_
                      refine takeH 176 (i := 7) (v := .int .i64 i) rfl (by kernel_rfl) (by kernel_rfl) (by kernel_rfl) (by kernel_rfl) (fun _ _ _ h => h) (Or.inl ⟨by kernel_rfl, fun _ _ => by kernel_rfl⟩) S0.out ?_
                      refine takeH 177 (i := 8) (v := .pointer (some ⟨b, o + i * 2, none⟩)) rfl (by kernel_rfl) (by kernel_rfl) (by kernel_rfl) (by kernel_rfl) (fun _ _ _ h => h) (Or.inl ⟨by kernel_rfl, fun _ hS => exec_idx (cap := cap) (n := n) rfl (by kernel_rfl) (by kernel_rfl) h0⟩) S0.out ?_
                      refine takeH 178 (i := 9) (v := .pointer (some ⟨b, o + i * 2, none⟩)) rfl (by kernel_rfl) (by kernel_rfl) (by kernel_rfl) (by kernel_rfl) (fun _ _ _ h => h) (Or.inl ⟨by kernel_rfl, fun _ hS => exec_arr0 rfl (by kernel_rfl)⟩) S0.out ?_
                      refine takeH 179 (i := 10) (v := .int .i64 (off rs SS : Int)) rfl (by kernel_rfl) (by kernel_rfl) (by kernel_rfl) (by kernel_rfl) (fun _ _ _ h => h) (Or.inl ⟨by kernel_rfl, fun _ hS => exec_load3 rfl (by kernel_rfl) hS.1⟩) S0.out ?_
                      refine takeH 180 (i := 11) (v := .bool false) rfl (by kernel_rfl) (by kernel_rfl) (by kernel_rfl) (by kernel_rfl) (fun _ _ _ h => h) (Or.inl ⟨by kernel_rfl, fun _ hS => yields_bool (x := decide ((off rs SS : Int) < (off rs X : Int))) (by kernel_rfl) hd1⟩) S0.out ?_
                      refine takeH 181 (i := 12) (v := .bool false) rfl (by kernel_rfl) (by kernel_rfl) (by kernel_rfl) (by kernel_rfl) (fun _ _ _ h => h) (Or.inl ⟨by kernel_rfl, fun _ _ => by kernel_rfl⟩) S0.out ?_
                      refine takeH 182 (i := 13) (v := .int .i64 (off rs Y)) rfl (by kernel_rfl) (by kernel_rfl) (by kernel_rfl) (by kernel_rfl) (fun _ _ _ h => h) (Or.inl ⟨by kernel_rfl, fun _ _ => by kernel_rfl⟩) S0.out ?_
                      refine takeH 183 (i := 14) (v := .slice (some ⟨b, o, none⟩) n cap) rfl (by kernel_rfl) (by kernel_rfl) (by kernel_rfl) (by kernel_rfl) (fun _ _ _ h => h) (Or.inl ⟨by kernel_rfl, fun _ _ => by kernel_rfl⟩) S0.out ?_
                      refine takeH 184 (i := 15) (v := .int .i64 i) rfl (by kernel_rfl) (by kernel_rfl) (by kernel_rfl) (by kernel_rfl) (fun _ _ _ h => h) (Or.inl ⟨by kernel_rfl, fun _ _ => by kernel_rfl⟩) S0.out ?_
                      refine takeH 185 (i := 16) (v := .pointer (some ⟨b, o + i * 2, none⟩)) rfl (by kernel_rfl) (by kernel_rfl) (by kernel_rfl) (by kernel_rfl) (fun _ _ _ h => h) (Or.inl ⟨by kernel_rfl, fun _ hS => exec_idx (cap := cap) (n := n) rfl (by kernel_rfl) (by kernel_rfl) h0⟩) S0.out ?_
                      refine takeH 186 (i := 17) (v := .pointer (some ⟨b, o + i * 2 + 1, none⟩)) rfl (by kernel_rfl) (by kernel_rfl) (by kernel_rfl) (by kernel_rfl) (fun _ _ _ h => h) (Or.inl ⟨by kernel_rfl, fun _ hS => exec_arr1 rfl (by kernel_rfl)⟩) S0.out ?_
                      refine takeH 187 (i := 18) (v := .int .i64 (off rs E : Int)) rfl (by kernel_rfl) (by kernel_rfl) (by kernel_rfl) (by kernel_rfl) (fun _ _ _ h => h) (Or.inl ⟨by kernel_rfl, fun _ hS => exec_load3 rfl (by kernel_rfl) hS.2⟩) S0.out ?_
                      refine takeH 188 (i := 19) (v := .bool true) rfl (by kernel_rfl) (by kernel_rfl) (by kernel_rfl) (by kernel_rfl) (fun _ _ _ h => h) (Or.inl ⟨by kernel_rfl, fun _ hS => yields_bool (x := decide ((off rs Y : Int) < (off rs E : Int))) (by kernel_rfl) hd2⟩) S0.out ?_
                      refine takeH 189 (i := 20) (v := .bool true) rfl (by kernel_rfl) (by kernel_rfl) (by kernel_rfl) (by kernel_rfl) (fun _ _ _ h => h) (Or.inl ⟨by kernel_rfl, fun _ _ => by kernel_rfl⟩) S0.out ?_
                      refine takeH 190 (i := 21) (v := .string s) rfl (by kernel_rfl) (by kernel_rfl) (by kernel_rfl) (by kernel_rfl) (fun _ _ _ h => h) (Or.inl ⟨by kernel_rfl, fun _ _ => by kernel_rfl⟩) S0.out ?_
                      refine takeH 191 (i := 22) (v := .slice (some ⟨b, o, none⟩) n cap) rfl (by kernel_rfl) (by kernel_rfl) (by kernel_rfl) (by kernel_rfl) (fun _ _ _ h => h) (Or.inl ⟨by kernel_rfl, fun _ _ => by kernel_rfl⟩) S0.out ?_
                      refine takeH 192 (i := 23) (v := .int .i64 i) rfl (by kernel_rfl) (by kernel_rfl) (by kernel_rfl) (by kernel_rfl) (fun _ _ _ h => h) (Or.inl ⟨by kernel_rfl, fun _ _ => by kernel_rfl⟩) S0.out ?_
                      refine takeH 193 (i := 24) (v := .pointer (some ⟨b, o + i * 2, none⟩)) rfl (by kernel_rfl) (by kernel_rfl) (by kernel_rfl) (by kernel_rfl) (fun _ _ _ h => h) (Or.inl ⟨by kernel_rfl, fun _ hS => exec_idx (cap := cap) (n := n) rfl (by kernel_rfl) (by kernel_rfl) h0⟩) S0.out ?_
                      refine takeH 194 (i := 25) (v := .pointer (some ⟨b, o + i * 2, none⟩)) rfl (by kernel_rfl) (by kernel_rfl) (by kernel_rfl) (by kernel_rfl) (fun _ _ _ h => h) (Or.inl ⟨by kernel_rfl, fun _ hS => exec_arr0 rfl (by kernel_rfl)⟩) S0.out ?_
                      refine takeH 195 (i := 26) (v := .int .i64 (off rs SS : Int)) rfl (by kernel_rfl) (by kernel_rfl) (by kernel_rfl) (by kernel_rfl) (fun _ _ _ h => h) (Or.inl ⟨by kernel_rfl, fun _ hS => exec_load3 rfl (by kernel_rfl) hS.1⟩) S0.out ?_
                      refine takeH 196 (i := 27) (v := .slice (some ⟨b, o, none⟩) n cap) rfl (by kernel_rfl) (by kernel_rfl) (by kernel_rfl) (by kernel_rfl) (fun _ _ _ h => h) (Or.inl ⟨by kernel_rfl, fun _ _ => by kernel_rfl⟩) S0.out ?_
                      refine takeH 197 (i := 28) (v := .int .i64 i) rfl (by kernel_rfl) (by kernel_rfl) (by kernel_rfl) (by kernel_rfl) (fun _ _ _ h => h) (Or.inl ⟨by kernel_rfl, fun _ _ => by kernel_rfl⟩) S0.out ?_
                      refine takeH 198 (i := 29) (v := .pointer (some ⟨b, o + i * 2, none⟩)) rfl (by kernel_rfl) (by kernel_rfl) (by kernel_rfl) (by kernel_rfl) (fun _ _ _ h => h) (Or.inl ⟨by kernel_rfl, fun _ hS => exec_idx (cap := cap) (n := n) rfl (by kernel_rfl) (by kernel_rfl) h0⟩) S0.out ?_
                      refine takeH 199 (i := 30) (v := .pointer (some ⟨b, o + i * 2 + 1, none⟩)) rfl (by kernel_rfl) (by kernel_rfl) (by kernel_rfl) (by kernel_rfl) (fun _ _ _ h => h) (Or.inl ⟨by kernel_rfl, fun _ hS => exec_arr1 rfl (by kernel_rfl)⟩) S0.out ?_
                      refine takeH 200 (i := 31) (v := .int .i64 (off rs E : Int)) rfl (by kernel_rfl) (by kernel_rfl) (by kernel_rfl) (by kernel_rfl) (fun _ _ _ h => h) (Or.inl ⟨by kernel_rfl, fun _ hS => exec_load3 rfl (by kernel_rfl) hS.2⟩) S0.out ?_
                      refine takeH 201 (i := 32) (v := .string (s.extract (off rs SS) (off rs E))) rfl (by kernel_rfl) (by kernel_rfl) (by kernel_rfl) (by kernel_rfl) (fun _ _ _ h => h) (Or.inl ⟨by kernel_rfl, fun _ hS => exec_cut rfl (by kernel_rfl) (by kernel_rfl) (by kernel_rfl) hx2 hx3⟩) S0.out ?_
                      refine takeH 203 (i := 34) (v := .int .u8 sz) rfl (by kernel_rfl) (by kernel_rfl) (by kernel_rfl) (by kernel_rfl) (fun _ _ _ h => h) (Or.inl ⟨by kernel_rfl, fun _ _ => by kernel_rfl⟩) S0.out ?_
                      refine takeH 204 (i := 35) (v := .int .i64 sz) rfl (by kernel_rfl) (by kernel_rfl) (by kernel_rfl) (by kernel_rfl) (fun _ _ _ h => h) (Or.inl ⟨by kernel_rfl, fun _ hS => exec_convert (v := .int .u8 sz) rfl (by kernel_rfl) (HCV.out _)⟩) S0.out ?_
                      refine callH 202 (i := 33) (f := 8) (args := #[.string (s.extract (off rs SS) (off rs E))]) (by kernel_rfl) rfl (by kernel_rfl) (by kernel_rfl) (by kernel_rfl) ?_
                      refine (U4.out _).mono ?_
                      rintro e w7 ⟨rfl, hb⟩
                      have HB7 := Lib.hid (HBr.out.trans (hb.mono HBr.out.size))
                      have S7 := Lib.hid (And.intro (belowRow hb S0.out.1) (belowRow hb S0.out.2))
                      clear hb
                      refine ⟨_, rfl, S7.out, ?_⟩
                      refine takeH 205 (i := 36) (v := .bool false) rfl (by kernel_rfl) (by kernel_rfl) (by kernel_rfl) (by kernel_rfl) (fun _ _ _ h => h) (Or.inl ⟨by kernel_rfl, fun _ hS => yields_bool (x := decide (((E - SS : Nat) : Int) ≤ (sz : Int))) (by kernel_rfl) hd3⟩) S7.out ?_
                      refine takeH 206 (i := 37) (v := .bool false) rfl (by kernel_rfl) (by kernel_rfl) (by kernel_rfl) (by kernel_rfl) (fun _ _ _ h => h) (Or.inl ⟨by kernel_rfl, fun _ _ => by kernel_rfl⟩) S7.out ?_
                      refine takeH 207 (i := 38) (v := .bool false) rfl (by kernel_rfl) (by kernel_rfl) (by kernel_rfl) (by kernel_rfl) (fun _ _ _ h => h) (Or.inl ⟨by kernel_rfl, fun _ _ => by kernel_rfl⟩) S7.out ?_
                      refine takeH 208 (i := 39) (v := .bool false) rfl (by kernel_rfl) (by kernel_rfl) (by kernel_rfl) (by kernel_rfl) (fun _ _ _ h => h) (Or.inl ⟨by kernel_rfl, fun _ _ => by kernel_rfl⟩) S7.out ?_
                      refine wpAnyH_done (by kernel_rfl) ?_ _
                      refine NoPanic.normal ?_
                      simp only [Act.at_, List.setIfInBounds_toArray, List.set_cons_zero, List.set_cons_succ]
                      go_wp2_with fail
                      go_roundg (k - (i + 1))
                      case measure => omega
                      case rel => exact ⟨i + 1, by omega, rfl, rfl, HB7.out⟩
                    · have hd2 : decide ((off rs Y : Int) < (off rs E : Int)) = false := by simpa using hYE
                      refine wp_region_noPanic ?_
                      refine wp_region_held_drew (S := (fun w' => w'.cell? ⟨b, o + i * 2, none⟩ = some (.int .i64 (off rs SS)) ∧ w'.cell? ⟨b, o + i * 2 + 1, none⟩ = some (.int .i64 (off rs E)))) (by kernel_rfl) S0.out (fun hHeld => ?_)
                      clear hHeld
                      generalize w6.drew = W at *
                      refine takeH 169 (i := 0) (v := .int .i64 i) rfl (by kernel_rfl) (by kernel_rfl) (by kernel_rfl) (by kernel_rfl) (fun _ _ _ h => h) (Or.inl ⟨by kernel_rfl, fun _ _ => by kernel_rfl⟩) S0.out ?_
                      refine takeH 170 (i := 1) (v := .slice (some ⟨b, o, none⟩) n cap) rfl (by kernel_rfl) (by kernel_rfl) (by kernel_rfl) (by kernel_rfl) (fun _ _ _ h => h) (Or.inl ⟨by kernel_rfl, fun _ _ => by kernel_rfl⟩) S0.out ?_
                      refine takeH 171 (i := 2) (v := .int .i64 n) rfl (by kernel_rfl) (by kernel_rfl) (by kernel_rfl) (by kernel_rfl) (fun _ _ _ h => h) (Or.inl ⟨by kernel_rfl, fun _ _ => by kernel_rfl⟩) S0.out ?_
                      refine takeH 172 (i := 3) (v := .bool true) rfl (by kernel_rfl) (by kernel_rfl) (by kernel_rfl) (by kernel_rfl) (fun _ _ _ h => h) (Or.inl ⟨by kernel_rfl, fun _ hS => yields_bool (x := decide ((i : Int) < (n : Int))) (by kernel_rfl) hd0⟩) S0.out ?_
                      refine takeH 173 (i := 4) (v := .bool true) rfl (by kernel_rfl) (by kernel_rfl) (by kernel_rfl) (by kernel_rfl) (fun _ _ _ h => h) (Or.inl ⟨by kernel_rfl, fun _ _ => by kernel_rfl⟩) S0.out ?_
                      refine takeH 174 (i := 5) (v := .int .i64 (off rs X)) rfl (by kernel_rfl) (by kernel_rfl) (by kernel_rfl) (by kernel_rfl) (fun _ _ _ h => h) (Or.inl ⟨by kernel_rfl, fun _ _ => by kernel_rfl⟩) S0.out ?_
                      refine takeH 175 (i := 6) (v := .slice (some ⟨b, o, none⟩) n cap) rfl (by kernel_rfl) (by kernel_rfl) (by kernel_rfl) (by kernel_rfl) (fun _ _ _ h => h) (Or.inl ⟨by kernel_rfl, fun _ _ => by kernel_rfl⟩) S0.out ?_
                      refine takeH 176 (i := 7) (v := .int .i64 i) rfl (by kernel_rfl) (by kernel_rfl) (by kernel_rfl) (by kernel_rfl) (fun _ _ _ h => h) (Or.inl ⟨by kernel_rfl, fun _ _ => by kernel_rfl⟩) S0.out ?_
                      refine takeH 177 (i := 8) (v := .pointer (some ⟨b, o + i * 2, none⟩)) rfl (by kernel_rfl) (by kernel_rfl) (by kernel_rfl) (by kernel_rfl) (fun _ _ _ h => h) (Or.inl ⟨by kernel_rfl, fun _ hS => exec_idx (cap := cap) (n := n) rfl (by kernel_rfl) (by kernel_rfl) h0⟩) S0.out ?_
                      refine takeH 178 (i := 9) (v := .pointer (some ⟨b, o + i * 2, none⟩)) rfl (by kernel_rfl) (by kernel_rfl) (by kernel_rfl) (by kernel_rfl) (fun _ _ _ h => h) (Or.inl ⟨by kernel_rfl, fun _ hS => exec_arr0 rfl (by kernel_rfl)⟩) S0.out ?_
                      refine takeH 179 (i := 10) (v := .int .i64 (off rs SS : Int)) rfl (by kernel_rfl) (by kernel_rfl) (by kernel_rfl) (by kernel_rfl) (fun _ _ _ h => h) (Or.inl ⟨by kernel_rfl, fun _ hS => exec_load3 rfl (by kernel_rfl) hS.1⟩) S0.out ?_
                      refine takeH 180 (i := 11) (v := .bool false) rfl (by kernel_rfl) (by kernel_rfl) (by kernel_rfl) (by kernel_rfl) (fun _ _ _ h => h) (Or.inl ⟨by kernel_rfl, fun _ hS => yields_bool (x := decide ((off rs SS : Int) < (off rs X : Int))) (by kernel_rfl) hd1⟩) S0.out ?_
                      refine takeH 181 (i := 12) (v := .bool false) rfl (by kernel_rfl) (by kernel_rfl) (by kernel_rfl) (by kernel_rfl) (fun _ _ _ h => h) (Or.inl ⟨by kernel_rfl, fun _ _ => by kernel_rfl⟩) S0.out ?_
                      refine takeH 182 (i := 13) (v := .int .i64 (off rs Y)) rfl (by kernel_rfl) (by kernel_rfl) (by kernel_rfl) (by kernel_rfl) (fun _ _ _ h => h) (Or.inl ⟨by kernel_rfl, fun _ _ => by kernel_rfl⟩) S0.out ?_
                      refine takeH 183 (i := 14) (v := .slice (some ⟨b, o, none⟩) n cap) rfl (by kernel_rfl) (by kernel_rfl) (by kernel_rfl) (by kernel_rfl) (fun _ _ _ h => h) (Or.inl ⟨by kernel_rfl, fun _ _ => by kernel_rfl⟩) S0.out ?_
                      refine takeH 184 (i := 15) (v := .int .i64 i) rfl (by kernel_rfl) (by kernel_rfl) (by kernel_rfl) (by kernel_rfl) (fun _ _ _ h => h) (Or.inl ⟨by kernel_rfl, fun _ _ => by kernel_rfl⟩) S0.out ?_
                      refine takeH 185 (i := 16) (v := .pointer (some ⟨b, o + i * 2, none⟩)) rfl (by kernel_rfl) (by kernel_rfl) (by kernel_rfl) (by kernel_rfl) (fun _ _ _ h => h) (Or.inl ⟨by kernel_rfl, fun _ hS => exec_idx (cap := cap) (n := n) rfl (by kernel_rfl) (by kernel_rfl) h0⟩) S0.out ?_
                      refine takeH 186 (i := 17) (v := .pointer (some ⟨b, o + i * 2 + 1, none⟩)) rfl (by kernel_rfl) (by kernel_rfl) (by kernel_rfl) (by kernel_rfl) (fun _ _ _ h => h) (Or.inl ⟨by kernel_rfl, fun _ hS => exec_arr1 rfl (by kernel_rfl)⟩) S0.out ?_
                      refine takeH 187 (i := 18) (v := .int .i64 (off rs E : Int)) rfl (by kernel_rfl) (by kernel_rfl) (by kernel_rfl) (by kernel_rfl) (fun _ _ _ h => h) (Or.inl ⟨by kernel_rfl, fun _ hS => exec_load3 rfl (by kernel_rfl) hS.2⟩) S0.out ?_
                      refine takeH 188 (i := 19) (v := .bool false) rfl (by kernel_rfl) (by kernel_rfl) (by kernel_rfl) (by kernel_rfl) (fun _ _ _ h => h) (Or.inl ⟨by kernel_rfl, fun _ hS => yields_bool (x := decide ((off rs Y : Int) < (off rs E : Int))) (by kernel_rfl) hd2⟩) S0.out ?_
                      refine takeH 189 (i := 20) (v := .bool false) rfl (by kernel_rfl) (by kernel_rfl) (by kernel_rfl) (by kernel_rfl) (fun _ _ _ h => h) (Or.inl ⟨by kernel_rfl, fun _ _ => by kernel_rfl⟩) S0.out ?_
                      refine takeH 190 (i := 21) (v := undef) rfl (by kernel_rfl) (by kernel_rfl) (by kernel_rfl) (by kernel_rfl) (fun _ _ _ h => h) (Or.inr ⟨by kernel_rfl, rfl⟩) S0.out ?_
                      refine takeH 191 (i := 22) (v := undef) rfl (by kernel_rfl) (by kernel_rfl) (by kernel_rfl) (by kernel_rfl) (fun _ _ _ h => h) (Or.inr ⟨by kernel_rfl, rfl⟩) S0.out ?_
                      refine takeH 192 (i := 23) (v := undef) rfl (by kernel_rfl) (by kernel_rfl) (by kernel_rfl) (by kernel_rfl) (fun _ _ _ h => h) (Or.inr ⟨by kernel_rfl, rfl⟩) S0.out ?_
                      refine takeH 193 (i := 24) (v := undef) rfl (by kernel_rfl) (by kernel_rfl) (by kernel_rfl) (by kernel_rfl) (fun _ _ _ h => h) (Or.inr ⟨by kernel_rfl, rfl⟩) S0.out ?_
                      refine takeH 194 (i := 25) (v := undef) rfl (by kernel_rfl) (by kernel_rfl) (by kernel_rfl) (by kernel_rfl) (fun _ _ _ h => h) (Or.inr ⟨by kernel_rfl, rfl⟩) S0.out ?_
                      refine takeH 195 (i := 26) (v := undef) rfl (by kernel_rfl) (by kernel_rfl) (by kernel_rfl) (by kernel_rfl) (fun _ _ _ h => h) (Or.inr ⟨by kernel_rfl, rfl⟩) S0.out ?_
                      refine takeH 196 (i := 27) (v := undef) rfl (by kernel_rfl) (by kernel_rfl) (by kernel_rfl) (by kernel_rfl) (fun _ _ _ h => h) (Or.inr ⟨by kernel_rfl, rfl⟩) S0.out ?_
                      refine takeH 197 (i := 28) (v := undef) rfl (by kernel_rfl) (by kernel_rfl) (by kernel_rfl) (by kernel_rfl) (fun _ _ _ h => h) (Or.inr ⟨by kernel_rfl, rfl⟩) S0.out ?_
                      refine takeH 198 (i := 29) (v := undef) rfl (by kernel_rfl) (by kernel_rfl) (by kernel_rfl) (by kernel_rfl) (fun _ _ _ h => h) (Or.inr ⟨by kernel_rfl, rfl⟩) S0.out ?_
                      refine takeH 199 (i := 30) (v := undef) rfl (by kernel_rfl) (by kernel_rfl) (by kernel_rfl) (by kernel_rfl) (fun _ _ _ h => h) (Or.inr ⟨by kernel_rfl, rfl⟩) S0.out ?_
                      refine takeH 200 (i := 31) (v := undef) rfl (by kernel_rfl) (by kernel_rfl) (by kernel_rfl) (by kernel_rfl) (fun _ _ _ h => h) (Or.inr ⟨by kernel_rfl, rfl⟩) S0.out ?_
                      refine takeH 201 (i := 32) (v := undef) rfl (by kernel_rfl) (by kernel_rfl) (by kernel_rfl) (by kernel_rfl) (fun _ _ _ h => h) (Or.inr ⟨by kernel_rfl, rfl⟩) S0.out ?_
                      refine takeH 202 (i := 33) (v := undef) rfl (by kernel_rfl) (by kernel_rfl) (by kernel_rfl) (by kernel_rfl) (fun _ _ _ h => h) (Or.inr ⟨by kernel_rfl, rfl⟩) S0.out ?_
                      refine takeH 203 (i := 34) (v := undef) rfl (by kernel_rfl) (by kernel_rfl) (by kernel_rfl) (by kernel_rfl) (fun _ _ _ h => h) (Or.inr ⟨by kernel_rfl, rfl⟩) S0.out ?_
                      refine takeH 204 (i := 35) (v := undef) rfl (by kernel_rfl) (by kernel_rfl) (by kernel_rfl) (by kernel_rfl) (fun _ _ _ h => h) (Or.inr ⟨by kernel_rfl, rfl⟩) S0.out ?_
                      refine takeH 205 (i := 36) (v := undef) rfl (by kernel_rfl) (by kernel_rfl) (by kernel_rfl) (by kernel_rfl) (fun _ _ _ h => h) (Or.inr ⟨by kernel_rfl, rfl⟩) S0.out ?_
                      refine takeH 206 (i := 37) (v := .bool false) rfl (by kernel_rfl) (by kernel_rfl) (by kernel_rfl) (by kernel_rfl) (fun _ _ _ h => h) (Or.inl ⟨by kernel_rfl, fun _ _ => by kernel_rfl⟩) S0.out ?_
                      refine takeH 207 (i := 38) (v := .bool false) rfl (by kernel_rfl) (by kernel_rfl) (by kernel_rfl) (by kernel_rfl) (fun _ _ _ h => h) (Or.inl ⟨by kernel_rfl, fun _ _ => by kernel_rfl⟩) S0.out ?_
                      refine takeH 208 (i := 39) (v := .bool false) rfl (by kernel_rfl) (by kernel_rfl) (by kernel_rfl) (by kernel_rfl) (fun _ _ _ h => h) (Or.inl ⟨by kernel_rfl, fun _ _ => by kernel_rfl⟩) S0.out ?_
                      refine wpAnyH_done (by kernel_rfl) ?_ _
                      refine NoPanic.normal ?_
                      simp only [Act.at_, List.setIfInBounds_toArray, List.set_cons_zero, List.set_cons_succ]
                      go_wp2_with fail
                      go_roundg (k - (i + 1))
                      case measure => omega
                      case rel => exact ⟨i + 1, by omega, rfl, rfl, HBr.out⟩
                  · have hd0 : decide ((i : Int) < (n : Int)) = false := by simpa using h0
                    have HBr := Lib.hid (show Below w3.heap.size w3 w6.drew from below_drewN HB6.out 1)
                    have S0 := Lib.hid True.intro
                    refine wp_region_noPanic ?_
                    refine wp_region_held_drew (S := (fun w' => True)) (by kernel_rfl) S0.out (fun hHeld => ?_)
                    clear hHeld
                    generalize w6.drew = W at *
                    refine takeH 169 (i := 0) (v := .int .i64 i) rfl (by kernel_rfl) (by kernel_rfl) (by kernel_rfl) (by kernel_rfl) (fun _ _ _ h => h) (Or.inl ⟨by kernel_rfl, fun _ _ => by kernel_rfl⟩) True.intro ?_
                    refine takeH 170 (i := 1) (v := .slice ad n cap) rfl (by kernel_rfl) (by kernel_rfl) (by kernel_rfl) (by kernel_rfl) (fun _ _ _ h => h) (Or.inl ⟨by kernel_rfl, fun _ _ => by kernel_rfl⟩) True.intro ?_
                    refine takeH 171 (i := 2) (v := .int .i64 n) rfl (by kernel_rfl) (by kernel_rfl) (by kernel_rfl) (by kernel_rfl) (fun _ _ _ h => h) (Or.inl ⟨by kernel_rfl, fun _ _ => by kernel_rfl⟩) True.intro ?_
                    refine takeH 172 (i := 3) (v := .bool false) rfl (by kernel_rfl) (by kernel_rfl) (by kernel_rfl) (by kernel_rfl) (fun _ _ _ h => h) (Or.inl ⟨by kernel_rfl, fun _ hS => yields_bool (x := decide ((i : Int) < (n : Int))) (by kernel_rfl) hd0⟩) True.intro ?_
                    refine takeH 173 (i := 4) (v := .bool false) rfl (by kernel_rfl) (by kernel_rfl) (by kernel_rfl) (by kernel_rfl) (fun _ _ _ h => h) (Or.inl ⟨by kernel_rfl, fun _ _ => by kernel_rfl⟩) True.intro ?_
                    refine takeH 174 (i := 5) (v := undef) rfl (by kernel_rfl) (by kernel_rfl) (by kernel_rfl) (by kernel_rfl) (fun _ _ _ h => h) (Or.inr ⟨by kernel_rfl, rfl⟩) True.intro ?_
                    refine takeH 175 (i := 6) (v := undef) rfl (by kernel_rfl) (by kernel_rfl) (by kernel_rfl) (by kernel_rfl) (fun _ _ _ h => h) (Or.inr ⟨by kernel_rfl, rfl⟩) True.intro ?_
                    refine takeH 176 (i := 7) (v := undef) rfl (by kernel_rfl) (by kernel_rfl) (by kernel_rfl) (by kernel_rfl) (fun _ _ _ h => h) (Or.inr ⟨by kernel_rfl, rfl⟩) True.intro ?_
                    refine takeH 177 (i := 8) (v := undef) rfl (by kernel_rfl) (by kernel_rfl) (by kernel_rfl) (by kernel_rfl) (fun _ _ _ h => h) (Or.inr ⟨by kernel_rfl, rfl⟩) True.intro ?_
                    refine takeH 178 (i := 9) (v := undef) rfl (by kernel_rfl) (by kernel_rfl) (by kernel_rfl) (by kernel_rfl) (fun _ _ _ h => h) (Or.inr ⟨by kernel_rfl, rfl⟩) True.intro ?_
                    refine takeH 179 (i := 10) (v := undef) rfl (by kernel_rfl) (by kernel_rfl) (by kernel_rfl) (by kernel_rfl) (fun _ _ _ h => h) (Or.inr ⟨by kernel_rfl, rfl⟩) True.intro ?_
                    refine takeH 180 (i := 11) (v := undef) rfl (by kernel_rfl) (by kernel_rfl) (by kernel_rfl) (by kernel_rfl) (fun _ _ _ h => h) (Or.inr ⟨by kernel_rfl, rfl⟩) True.intro ?_
                    refine takeH 181 (i := 12) (v := undef) rfl (by kernel_rfl) (by kernel_rfl) (by kernel_rfl) (by kernel_rfl) (fun _ _ _ h => h) (Or.inr ⟨by kernel_rfl, rfl⟩) True.intro ?_
                    refine takeH 182 (i := 13) (v := undef) rfl (by kernel_rfl) (by kernel_rfl) (by kernel_rfl) (by kernel_rfl) (fun _ _ _ h => h) (Or.inr ⟨by kernel_rfl, rfl⟩) True.intro ?_
                    refine takeH 183 (i := 14) (v := undef) rfl (by kernel_rfl) (by kernel_rfl) (by kernel_rfl) (by kernel_rfl) (fun _ _ _ h => h) (Or.inr ⟨by kernel_rfl, rfl⟩) True.intro ?_
                    refine takeH 184 (i := 15) (v := undef) rfl (by kernel_rfl) (by kernel_rfl) (by kernel_rfl) (by kernel_rfl) (fun _ _ _ h => h) (Or.inr ⟨by kernel_rfl, rfl⟩) True.intro ?_
                    refine takeH 185 (i := 16) (v := undef) rfl (by kernel_rfl) (by kernel_rfl) (by kernel_rfl) (by kernel_rfl) (fun _ _ _ h => h) (Or.inr ⟨by kernel_rfl, rfl⟩) True.intro ?_
                    refine takeH 186 (i := 17) (v := undef) rfl (by kernel_rfl) (by kernel_rfl) (by kernel_rfl) (by kernel_rfl) (fun _ _ _ h => h) (Or.inr ⟨by kernel_rfl, rfl⟩) True.intro ?_
                    refine takeH 187 (i := 18) (v := undef) rfl (by kernel_rfl) (by kernel_rfl) (by kernel_rfl) (by kernel_rfl) (fun _ _ _ h => h) (Or.inr ⟨by kernel_rfl, rfl⟩) True.intro ?_
                    refine takeH 188 (i := 19) (v := undef) rfl (by kernel_rfl) (by kernel_rfl) (by kernel_rfl) (by kernel_rfl) (fun _ _ _ h => h) (Or.inr ⟨by kernel_rfl, rfl⟩) True.intro ?_
                    refine takeH 189 (i := 20) (v := undef) rfl (by kernel_rfl) (by kernel_rfl) (by kernel_rfl) (by kernel_rfl) (fun _ _ _ h => h) (Or.inr ⟨by kernel_rfl, rfl⟩) True.intro ?_
                    refine takeH 190 (i := 21) (v := undef) rfl (by kernel_rfl) (by kernel_rfl) (by kernel_rfl) (by kernel_rfl) (fun _ _ _ h => h) (Or.inr ⟨by kernel_rfl, rfl⟩) True.intro ?_
                    refine takeH 191 (i := 22) (v := undef) rfl (by kernel_rfl) (by kernel_rfl) (by kernel_rfl) (by kernel_rfl) (fun _ _ _ h => h) (Or.inr ⟨by kernel_rfl, rfl⟩) True.intro ?_
                    refine takeH 192 (i := 23) (v := undef) rfl (by kernel_rfl) (by kernel_rfl) (by kernel_rfl) (by kernel_rfl) (fun _ _ _ h => h) (Or.inr ⟨by kernel_rfl, rfl⟩) True.intro ?_
                    refine takeH 193 (i := 24) (v := undef) rfl (by kernel_rfl) (by kernel_rfl) (by kernel_rfl) (by kernel_rfl) (fun _ _ _ h => h) (Or.inr ⟨by kernel_rfl, rfl⟩) True.intro ?_
                    refine takeH 194 (i := 25) (v := undef) rfl (by kernel_rfl) (by kernel_rfl) (by kernel_rfl) (by kernel_rfl) (fun _ _ _ h => h) (Or.inr ⟨by kernel_rfl, rfl⟩) True.intro ?_
                    refine takeH 195 (i := 26) (v := undef) rfl (by kernel_rfl) (by kernel_rfl) (by kernel_rfl) (by kernel_rfl) (fun _ _ _ h => h) (Or.inr ⟨by kernel_rfl, rfl⟩) True.intro ?_
                    refine takeH 196 (i := 27) (v := undef) rfl (by kernel_rfl) (by kernel_rfl) (by kernel_rfl) (by kernel_rfl) (fun _ _ _ h => h) (Or.inr ⟨by kernel_rfl, rfl⟩) True.intro ?_
                    refine takeH 197 (i := 28) (v := undef) rfl (by kernel_rfl) (by kernel_rfl) (by kernel_rfl) (by kernel_rfl) (fun _ _ _ h => h) (Or.inr ⟨by kernel_rfl, rfl⟩) True.intro ?_
                    refine takeH 198 (i := 29) (v := undef) rfl (by kernel_rfl) (by kernel_rfl) (by kernel_rfl) (by kernel_rfl) (fun _ _ _ h => h) (Or.inr ⟨by kernel_rfl, rfl⟩) True.intro ?_
                    refine takeH 199 (i := 30) (v := undef) rfl (by kernel_rfl) (by kernel_rfl) (by kernel_rfl) (by kernel_rfl) (fun _ _ _ h => h) (Or.inr ⟨by kernel_rfl, rfl⟩) True.intro ?_
                    refine takeH 200 (i := 31) (v := undef) rfl (by kernel_rfl) (by kernel_rfl) (by kernel_rfl) (by kernel_rfl) (fun _ _ _ h => h) (Or.inr ⟨by kernel_rfl, rfl⟩) True.intro ?_
                    refine takeH 201 (i := 32) (v := undef) rfl (by kernel_rfl) (by kernel_rfl) (by kernel_rfl) (by kernel_rfl) (fun _ _ _ h => h) (Or.inr ⟨by kernel_rfl, rfl⟩) True.intro ?_
                    refine takeH 202 (i := 33) (v := undef) rfl (by kernel_rfl) (by kernel_rfl) (by kernel_rfl) (by kernel_rfl) (fun _ _ _ h => h) (Or.inr ⟨by kernel_rfl, rfl⟩) True.intro ?_
                    refine takeH 203 (i := 34) (v := undef) rfl (by kernel_rfl) (by kernel_rfl) (by kernel_rfl) (by kernel_rfl) (fun _ _ _ h => h) (Or.inr ⟨by kernel_rfl, rfl⟩) True.intro ?_
                    refine takeH 204 (i := 35) (v := undef) rfl (by kernel_rfl) (by kernel_rfl) (by kernel_rfl) (by kernel_rfl) (fun _ _ _ h => h) (Or.inr ⟨by kernel_rfl, rfl⟩) True.intro ?_
                    refine takeH 205 (i := 36) (v := undef) rfl (by kernel_rfl) (by kernel_rfl) (by kernel_rfl) (by kernel_rfl) (fun _ _ _ h => h) (Or.inr ⟨by kernel_rfl, rfl⟩) True.intro ?_
                    refine takeH 206 (i := 37) (v := undef) rfl (by kernel_rfl) (by kernel_rfl) (by kernel_rfl) (by kernel_rfl) (fun _ _ _ h => h) (Or.inr ⟨by kernel_rfl, rfl⟩) True.intro ?_
                    refine takeH 207 (i := 38) (v := undef) rfl (by kernel_rfl) (by kernel_rfl) (by kernel_rfl) (by kernel_rfl) (fun _ _ _ h => h) (Or.inr ⟨by kernel_rfl, rfl⟩) True.intro ?_
                    refine takeH 208 (i := 39) (v := .bool false) rfl (by kernel_rfl) (by kernel_rfl) (by kernel_rfl) (by kernel_rfl) (fun _ _ _ h => h) (Or.inl ⟨by kernel_rfl, fun _ _ => by kernel_rfl⟩) True.intro ?_
                    refine wpAnyH_done (by kernel_rfl) ?_ _
                    refine NoPanic.normal ?_
                    simp only [Act.at_, List.setIfInBounds_toArray, List.set_cons_zero, List.set_cons_succ]
                    go_wp2_with fail
                    go_roundg (k - (i + 1))
                    case measure => omega
                    case rel => exact ⟨i + 1, by omega, rfl, rfl, HBr.out⟩
                · have HBe := Lib.hid hb
                  clear hb
                  go_wp2_with fail
                  go_meet
                  case rel => exact HBe.out
            case rest =>
              have HB7 := Lib.hid hcut
              clear hcut
              go_wp2_with fail
              refine (AW.out _).mono ?_
              rintro e w4 ⟨rfl, hb⟩
              have HB8 := Lib.hid (HB7.out.trans (hb.mono HB7.out.size))
              clear hb
              have HB9 := Lib.hid (HB3.out.trans (HB8.out.mono HB3.out.size))
              by_cases hn0 : 0 < n
              · clear HB7
                go_wp2_with fail
                go_ret
                exact ⟨rfl, HB9.out⟩
              · have hkk : k = 1 := by have := HKM.out; omega
                have hif : 0 < fs.length := by have := HK.out; omega
                have hil : 0 < (List.map (prOf rs) fs).length := by rw [List.length_map]; exact hif
                obtain ⟨q1, q2⟩ := (HPR.out.below HB8.out) 0 hil
                obtain ⟨g1, g2⟩ := HG.out.none (by omega) _ (List.getElem_mem hif)
                have hxy : prOf rs fs[0] = ((off rs fs[0].2.1 : Int), (off rs fs[0].2.2 : Int)) := rfl
                rw [List.getElem_map, hxy, g1, g2] at q1 q2
                have hY : min sz rs.length ≤ rs.length := Nat.min_le_right _ _
                have ev := HR.out.count (Nat.zero_le _) hY
                rw [off_zero] at ev
                have hoY := HR.out.off_le hY
                have ev2 := count_fl s rs HR.out.vs HR.out.eq
                obtain ⟨Y, hYY⟩ : ∃ Y, min sz rs.length = Y := ⟨_, rfl⟩
                rw [hYY] at q2 ev hoY
                have U1 := Lib.hid (count_str (s.extract 0 (off rs Y)) Y (by rw [ev]; omega) (by rw [ByteArray.size_extract]; omega))
                have U2 := Lib.hid (count_str s rs.length ev2 (by omega))
                have q1' : w4.cell? ⟨g, 0, none⟩ = some (.int .i64 0) := by simpa [off_zero] using q1
                have q2' : w4.cell? ⟨g, 1, none⟩ = some (.int .i64 (off rs Y)) := by simpa using q2
                have hmin : ((Y : Int) == min (sz : Int) (rs.length : Int)) = true := by simp; omega
                clear q1 q2 g1 g2 hxy ev ev2 hYY hY HB7
                go_wp2_with fail
                refine (U1.out _).mono ?_
                rintro e w5 ⟨rfl, hb⟩
                have HB10 := Lib.hid (HB9.out.trans (hb.mono HB9.out.size))
                clear hb q1' q2'
                go_wp2_with fail
                refine (U2.out _).mono ?_
                rintro e w6 ⟨rfl, hb⟩
                have HB11 := Lib.hid (HB10.out.trans (hb.mono HB10.out.size))
                clear hb
                go_wp2_with fail
                go_ret
                exact ⟨rfl, HB11.out⟩
end Go.Proofs.YtbfelpgojgaeoaaDoor
