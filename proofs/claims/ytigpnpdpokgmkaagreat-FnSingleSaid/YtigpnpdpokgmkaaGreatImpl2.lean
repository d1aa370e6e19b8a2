/- The closure of impl.Tokens at both tokenizers. -/
import Derived.Test.YtigpnpdpokgmkaaGreatImpl
set_option linter.unusedVariables false
set_option linter.unusedSimpArgs false
namespace Go.Proofs.YtigpnpdpokgmkaaGreat
open Go Go.RowKit

def fSingle (s : ByteArray) (o : Nat) : Option Value := (dataRow s 0 s.size 1 0 false)[o]?
def fSpace (o : Nat) : Option Value := if 6 ≤ o then (dataRow ⟨#[98]⟩ 2 3 2 0 false)[o - 6]? else none

set_option maxRecDepth 50000 in
set_option maxHeartbeats 4000000 in
theorem tk_single (s set : ByteArray) (a0 a1 a2 a3 : Nat) (w : World) (h0 : w.cell? ⟨a0, 0, none⟩ = some (.int .i64 0)) (h1 : w.cell? ⟨a1, 0, none⟩ = some (.string set)) (h2 : w.cell? ⟨a2, 0, none⟩ = some (.string s)) (o3 : One w a3 (.slice none 0 0)) :
    Calls Tryz.prog 31 #[.pointer (some ⟨a0, 0, none⟩), .pointer (some ⟨a1, 0, none⟩), .pointer (some ⟨a2, 0, none⟩), .pointer (some ⟨a3, 0, none⟩)] w fun x w' => x = .returned (.tuple #[]) ∧ ∃ d dcap, One w' a3 (.slice (some ⟨d, 0, none⟩) 1 dcap) ∧ CellsAt w' d (fSingle s) ∧ w.heap.size ≤ d ∧
        w.heap.size ≤ w'.heap.size ∧ (∀ k, k < w.heap.size → k ≠ a3 → w'.heap[k]? = w.heap[k]?) ∧ w'.os = w.os ∧ w'.tape = w.tape ∧ w'.output = w.output := by
  have l3 := o3.lt
  have O3 := Lib.hid o3
  have H2 := Lib.hid h2
  clear o3 h2
  go_enter Tryz.func31, Tryz.ntmps31
  go_wp2_with fail
  refine (tokenizer_single set w).mono ?_
  rintro x w1 ⟨q, rfl, hb1⟩
  have k2 : w1.cell? ⟨a2, 0, none⟩ = some (.string s) := belowRow hb1 H2.out
  have hcv := bytes_conv s w1
  have hb2 := hb1.trans ((bytesW_below s w1).mono hb1.size)
  have HB2 := Lib.hid hb2
  have HY := Lib.hid (bytesW_cells s w1)
  clear hb1 hb2 h0 h1
  generalize bytesCap w1 s = cap at *
  generalize hW2 : bytesW w1 s = W2 at *
  generalize w1.heap.size = c at *
  go_wp2_with fail
  refine (single_tok q _ ⟨c, 0, none⟩ s.size cap rfl W2).mono ?_
  rintro x w3 ⟨g, p, rfl, hg, hr, hb3⟩
  have HB3 := Lib.hid (HB2.out.trans (hb3.mono HB2.out.size))
  have T := Lib.hid (tokens_one g 1 p _ s 0 s.size 1 0 false w3 hg hr (fun W hW => bytes_back ((HY.out.below hb3).below hW) cap))
  clear hb3 hg hr k2
  go_wp2_with fail
  refine T.out.mono ?_
  rintro x w4 ⟨d, dcap, rfl, hr4, hd4, hb4⟩
  have hbb := HB3.out.trans (hb4.mono HB3.out.size)
  have P3 := O3.out.below hbb
  have hd := Nat.le_trans HB3.out.size hd4
  have c3 := P3.cell
  have f3 := P3.free
  have F := Lib.hid (And.intro (P3.set (.slice (some ⟨d, 0, none⟩) 1 dcap)) (And.intro (show CellsAt w4 d (fSingle s) from fun o u hu => hr4 o u hu) hbb))
  clear P3 hr4 hd4 hb4 hbb T
  go_wp2
  go_end0
  obtain ⟨F1, F2, F3⟩ := F.out
  refine ⟨rfl, d, dcap, F1, F2.other (by omega), hd, ?_, ?_, F3.os, F3.tape, F3.output⟩
  · have hz : (w4.setCell ⟨a3, 0, none⟩ (.slice (some ⟨d, 0, none⟩) 1 dcap)).heap.size = w4.heap.size := by simp [World.setCell]
    rw [hz]; exact F3.size
  · intro k hk h
    rw [Below.heap_setCell _ _ _ _ (by simpa using h)]
    exact F3.block k hk

theorem conv_one (c o : Nat) (b : UInt8) (cap : Nat) (W : World) (h : W.cell? ⟨c, o, none⟩ = some (.int .u8 (b.toNat : Int))) : (convert 64 9 (.slice (some ⟨c, o, none⟩) 1 cap)).run Tryz.prog W = .ok (.string ⟨#[b]⟩) W :=
  run_convert_bytes_back (P := Tryz.prog) W 64 9 5 ⟨c, o, none⟩ cap [b] Tryz.underlying64 Tryz.underlying5 Tryz.underlying9 (fun j hj => by
    have : j = 0 := by simpa using hj
    subst this
    have e : (⟨c, o, none⟩ : Addr).add 0 = ⟨c, o, none⟩ := by unfold Addr.add; split <;> simp_all
    rw [e]; exact h)

set_option maxRecDepth 50000 in
set_option maxHeartbeats 4000000 in
theorem tk_space (set : ByteArray) (a0 a1 a2 a3 : Nat) (w : World) (h0 : w.cell? ⟨a0, 0, none⟩ = some (.int .i64 2)) (h1 : w.cell? ⟨a1, 0, none⟩ = some (.string set)) (h2 : w.cell? ⟨a2, 0, none⟩ = some (.string sA_b)) (o3 : One w a3 (.slice none 0 0)) :
    Calls Tryz.prog 31 #[.pointer (some ⟨a0, 0, none⟩), .pointer (some ⟨a1, 0, none⟩), .pointer (some ⟨a2, 0, none⟩), .pointer (some ⟨a3, 0, none⟩)] w fun x w' => x = .returned (.tuple #[]) ∧ ∃ d dcap, One w' a3 (.slice (some ⟨d, 0, none⟩) 2 dcap) ∧ CellsAt w' d fSpace ∧ w.heap.size ≤ d ∧
        w.heap.size ≤ w'.heap.size ∧ (∀ k, k < w.heap.size → k ≠ a3 → w'.heap[k]? = w.heap[k]?) ∧ w'.os = w.os ∧ w'.tape = w.tape ∧ w'.output = w.output := by
  have l3 := o3.lt
  have O3 := Lib.hid o3
  have H2 := Lib.hid h2
  clear o3 h2
  go_enter Tryz.func31, Tryz.ntmps31
  go_wp2_with fail
  refine (tokenizer_space set w).mono ?_
  rintro x w1 ⟨q, rfl, hq, hb1⟩
  have k2 : w1.cell? ⟨a2, 0, none⟩ = some (.string sA_b) := belowRow hb1 H2.out
  have hcv := bytes_conv sA_b w1
  have hsz : sA_b.size = 3 := rfl
  rw [hsz] at hcv
  have hb2 := hb1.trans ((bytesW_below sA_b w1).mono hb1.size)
  have HB2 := Lib.hid hb2
  have HY := Lib.hid (bytesW_cells sA_b w1)
  have C1 := Lib.hid (bytesCap_le sA_b w1)
  have C2 := Lib.hid (bytesCap_max sA_b (by rw [hsz]; simp [maxLen]) w1)
  have HQ := Lib.hid (belowRow (bytesW_below sA_b w1) hq)
  rw [hsz] at C1
  clear hb1 hb2 h0 h1 hsz hq
  generalize bytesCap w1 sA_b = cap at *
  generalize hW2 : bytesW w1 sA_b = W2 at *
  generalize w1.heap.size = c at *
  go_wp2_with fail
  refine (char_tok q c cap C1.out C2.out W2 HQ.out HY.out).mono ?_
  rintro x w3 ⟨g, gcap, p1, p2, rfl, hg1, hg2, hr1, hr2, hb3⟩
  have HB3 := Lib.hid (HB2.out.trans (hb3.mono HB2.out.size))
  have T := Lib.hid (tokens_two g gcap p1 p2 _ _ ⟨#[97]⟩ ⟨#[98]⟩ 0 1 1 0 2 3 2 0 false false w3 hg1 hg2 hr1 hr2
    (fun W hW => conv_one c 0 97 _ W (((HY.out.below hb3).below hW) 0 (by decide))) (fun W hW => conv_one c 2 98 _ W (((HY.out.below hb3).below hW) 2 (by decide))))
  clear hb3 hg1 hg2 hr1 hr2 k2
  go_wp2_with fail
  refine T.out.mono ?_
  rintro x w4 ⟨d, dcap, rfl, hr4, hd4, hb4⟩
  have hbb := HB3.out.trans (hb4.mono HB3.out.size)
  have P3 := O3.out.below hbb
  have hd := Nat.le_trans HB3.out.size hd4
  have c3 := P3.cell
  have f3 := P3.free
  have F := Lib.hid (And.intro (P3.set (.slice (some ⟨d, 0, none⟩) 2 dcap)) (And.intro (show CellsAt w4 d fSpace from fun o u hu => by
    unfold fSpace at hu
    by_cases h6 : 6 ≤ o
    · rw [if_pos h6] at hu
      have := hr4 (o - 6) u hu
      rwa [show 6 + (o - 6) = o by omega] at this
    · rw [if_neg h6] at hu; cases hu) hbb))
  clear P3 hr4 hd4 hb4 hbb T
  go_wp2
  go_end0
  obtain ⟨F1, F2, F3⟩ := F.out
  refine ⟨rfl, d, dcap, F1, F2.other (by omega), hd, ?_, ?_, F3.os, F3.tape, F3.output⟩
  · have hz : (w4.setCell ⟨a3, 0, none⟩ (.slice (some ⟨d, 0, none⟩) 2 dcap)).heap.size = w4.heap.size := by simp [World.setCell]
    rw [hz]; exact F3.size
  · intro k hk h
    rw [Below.heap_setCell _ _ _ _ (by simpa using h)]
    exact F3.block k hk

theorem tokens_single (s set : ByteArray) (w : World) : Calls Tryz.prog 13 #[.string s, .int .i64 0, .string set] w fun x w' => ∃ d dcap, x = .returned (.slice (some ⟨d, 0, none⟩) 1 dcap) ∧ CellsAt w' d (fSingle s) ∧ Below w.heap.size w w' :=
  tokens_wrap s set 0 1 (fSingle s) w (fun a0 a1 a2 a3 wA _ h0 h1 h2 o3 => tk_single s set a0 a1 a2 a3 wA h0 h1 h2 o3)
theorem tokens_space (set : ByteArray) (w : World) : Calls Tryz.prog 13 #[.string sA_b, .int .i64 2, .string set] w fun x w' => ∃ d dcap, x = .returned (.slice (some ⟨d, 0, none⟩) 2 dcap) ∧ CellsAt w' d fSpace ∧ Below w.heap.size w w' :=
  tokens_wrap sA_b set 2 2 fSpace w (fun a0 a1 a2 a3 wA _ h0 h1 h2 o3 => tk_space set a0 a1 a2 a3 wA h0 h1 h2 o3)
end Go.Proofs.YtigpnpdpokgmkaaGreat
