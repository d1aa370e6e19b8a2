/- The contract of impl.Filtered at the token and the filter that filterAlive asks. -/
import Derived.Test.YtigpnpdpokgmkaaGreatImpl2
import Derived.Test.YtigpnpdpokgmkaaGreatLowF
set_option linter.unusedVariables false
set_option linter.unusedSimpArgs false
namespace Go.Proofs.YtigpnpdpokgmkaaGreat
open Go Go.RowKit

def sabc : ByteArray := ⟨#[97, 98, 99]⟩
def fLow (o : Nat) : Option Value := (dataRow sabc 2 5 1 0 false)[o]?
def filtRow : Array Value := #[.int .i64 8, .int .i64 0, .int .i64 0, .int .i64 0, .bool false, .slice none 0 0, .string ⟨#[]⟩, .string ⟨#[]⟩]

set_option maxRecDepth 50000 in
set_option maxHeartbeats 4000000 in
theorem ft_closure (a0 a1 a2 b1 b2 : Nat) (w : World) (h0 : w.cell? ⟨a0, 0, none⟩ = some (.slice (some ⟨b1, 0, none⟩) 1 1)) (h1 : w.cell? ⟨a1, 0, none⟩ = some (.slice (some ⟨b2, 0, none⟩) 1 1)) (r1 : RowAt w b1 (dataRow sAbC 2 5 1 0 false)) (r2 : RowAt w b2 filtRow) (o2 : One w a2 (.slice none 0 0)) :
    Calls Tryz.prog 27 #[.pointer (some ⟨a0, 0, none⟩), .pointer (some ⟨a1, 0, none⟩), .pointer (some ⟨a2, 0, none⟩)] w fun x w' => x = .returned (.tuple #[]) ∧ ∃ d dcap, One w' a2 (.slice (some ⟨d, 0, none⟩) 1 dcap) ∧ CellsAt w' d fLow ∧ w.heap.size ≤ d ∧
        w.heap.size ≤ w'.heap.size ∧ (∀ k, k < w.heap.size → k ≠ a2 → w'.heap[k]? = w.heap[k]?) ∧ w'.os = w.os ∧ w'.tape = w.tape ∧ w'.output = w.output := by
  have l2 := o2.lt
  have O2 := Lib.hid o2
  have H1 := Lib.hid h1
  have R2 := Lib.hid r2
  have HR1 := Lib.hid r1
  clear o2 h1 r2 r1
  go_enter Tryz.func27, Tryz.ntmps27
  go_wp2_with fail
  refine (stream_one b1 w HR1.out).mono ?_
  rintro x w1 ⟨g, gcap, p, c, ccap, rfl, hg, htk, hby, hfz, hc3, hcm, hcw, hpw, hcp, hgc, hgp, hb1⟩
  have HB1 := Lib.hid hb1
  have k1 : w1.cell? ⟨a1, 0, none⟩ = some (.slice (some ⟨b2, 0, none⟩) 1 1) := belowRow hb1 H1.out
  have rr := R2.out.below hb1
  unfold filtRow at rr
  have e0 : w1.cell? ⟨b2, 0, none⟩ = some (.int .i64 8) := rr 0 _ rfl
  have e1 : w1.cell? ⟨b2, 1, none⟩ = some (.int .i64 0) := rr 1 _ rfl
  have e2 : w1.cell? ⟨b2, 2, none⟩ = some (.int .i64 0) := rr 2 _ rfl
  have e3 : w1.cell? ⟨b2, 3, none⟩ = some (.int .i64 0) := rr 3 _ rfl
  have e4 : w1.cell? ⟨b2, 4, none⟩ = some (.bool false) := rr 4 _ rfl
  have e5 : w1.cell? ⟨b2, 5, none⟩ = some (.slice none 0 0) := rr 5 _ rfl
  have e6 : w1.cell? ⟨b2, 6, none⟩ = some (.string ⟨#[]⟩) := rr 6 _ rfl
  have e7 : w1.cell? ⟨b2, 7, none⟩ = some (.string ⟨#[]⟩) := rr 7 _ rfl
  have ST := Lib.hid (And.intro hg (And.intro htk (And.intro hby hfz)))
  have CM := Lib.hid (And.intro hc3 hcm)
  have B2 : Below w1.heap.size w1 (w1.alloc (.cells #[.int .i64 8, .int .i64 0, .int .i64 0, .int .i64 0, .bool false, .slice none 0 0, .string ⟨#[]⟩, .string ⟨#[]⟩] 30)) := (Below.refl _ _).alloc (Nat.le_refl _) _
  have HB2 := Lib.hid B2
  clear hb1 rr hg htk hby hfz h0 hc3 hcm B2
  go_wp2_with fail
  refine wp_loop_rounds 2 ?_
  simp only [rounds_succ]
  go_wp2_with fail
  generalize w1.alloc (.cells #[.int .i64 8, .int .i64 0, .int .i64 0, .int .i64 0, .bool false, .slice none 0 0, .string ⟨#[]⟩, .string ⟨#[]⟩] 30) = W1 at *
  refine (filter_kind 0 0 0 false (.slice none 0 0) ⟨#[]⟩ ⟨#[]⟩ W1).mono ?_
  rintro x w3 ⟨q, rfl, hb3⟩
  have hb13 := HB2.out.trans (hb3.mono HB2.out.size)
  have HB3 := Lib.hid (HB1.out.trans (hb13.mono HB1.out.size))
  have S0 := belowRow hb13 ST.out.1
  have S1 := ST.out.2.1.below hb13
  have S2 := ST.out.2.2.1.below hb13
  have S3 : ∀ i, i < 3 → w3.frozen? ⟨c, i, none⟩ = false := fun i hi => frozen_below hb13 (World.block_lt_of_cell? w1 ⟨c, i, none⟩ (ST.out.2.2.1 i hi)) (ST.out.2.2.2 i hi)
  have L := Lib.hid (lower_filter q g gcap p c ccap w3 S0 S1 S2 S3 CM.out.1 CM.out.2 hcp hgc hgp)
  have SS := Lib.hid (And.intro S0 (And.intro S1 S2))
  clear hb3 hb13 S0 S1 S2 S3 e0 e1 e2 e3 e4 e5 e6 e7 k1
  go_wp2_with fail
  refine L.out.mono ?_
  rintro x w4 ⟨rfl, rfl⟩
  obtain ⟨S0, S1, S2⟩ := SS.out
  have b0 : w3.cell? ⟨c, 1, none⟩ = some (.int .u8 98) := S2 1 (by decide)
  have q0 : w3.cell? ⟨c, 0, none⟩ = some (.int .u8 65) := S2 0 (by decide)
  have q2 : w3.cell? ⟨c, 2, none⟩ = some (.int .u8 67) := S2 2 (by decide)
  have BY : BytesB (((w3.setCell ⟨c, 0, none⟩ (.int .u8 97)).setCell ⟨c, 2, none⟩ (.int .u8 99)).setCell ⟨p, 2, none⟩ (.slice (some ⟨c, 0, none⟩) 3 ccap)) c sabc := by
    intro i hi
    have hi3 : i < 3 := hi
    refine cell_other hcp ?_
    match i, hi3 with
    | 0, _ => rw [cell_off (by omega)]; exact World.cell?_setCell_same _ _ _ q0
    | 1, _ => rw [cell_off (by omega), cell_off (by omega)]; exact b0
    | 2, _ => exact World.cell?_setCell_same _ _ _ (by rw [cell_off (by omega)]; exact q2)
  have G0 : (((w3.setCell ⟨c, 0, none⟩ (.int .u8 97)).setCell ⟨c, 2, none⟩ (.int .u8 99)).setCell ⟨p, 2, none⟩ (.slice (some ⟨c, 0, none⟩) 3 ccap)).cell? ⟨g, 0, none⟩ = some (.pointer (some ⟨p, 0, none⟩)) := cell_other hgp (cell_other hgc (cell_other hgc S0))
  have T1 := (S1.other (c := c) (j := 0) (Ne.symm hcp) (.int .u8 97)).other (c := c) (j := 2) (Ne.symm hcp) (.int .u8 99)
  have e : ((w3.setCell ⟨c, 0, none⟩ (.int .u8 97)).setCell ⟨c, 2, none⟩ (.int .u8 99)).setCell ⟨p, 2, none⟩ (.slice (some ⟨c, 0, none⟩) 3 ccap) = (w3.setCell ⟨c, 0, none⟩ (.int .u8 97)).setCell ⟨c, 2, none⟩ (.int .u8 99) := setCell_id (T1.row 2 _ rfl)
  have TR : RowAt (((w3.setCell ⟨c, 0, none⟩ (.int .u8 97)).setCell ⟨c, 2, none⟩ (.int .u8 99)).setCell ⟨p, 2, none⟩ (.slice (some ⟨c, 0, none⟩) 3 ccap)) p #[.int .i64 2, .int .i64 5, .slice (some ⟨c, 0, none⟩) 3 ccap, .int .i64 1, .int .i64 0, .bool false] := by rw [e]; exact T1.row
  have HB4 := Lib.hid (((HB3.out.setCell (p := ⟨c, 0, none⟩) (by simpa using hcw) (.int .u8 97)).setCell (p := ⟨c, 2, none⟩) (by simpa using hcw) (.int .u8 99)).setCell (p := ⟨p, 2, none⟩) (by simpa using hpw) (.slice (some ⟨c, 0, none⟩) 3 ccap))
  clear b0 q0 q2 e T1 S0 S1 S2
  generalize ((w3.setCell ⟨c, 0, none⟩ (.int .u8 97)).setCell ⟨c, 2, none⟩ (.int .u8 99)).setCell ⟨p, 2, none⟩ (.slice (some ⟨c, 0, none⟩) 3 ccap) = w4 at *
  have T := Lib.hid (tokens_one g gcap p _ sabc 2 5 1 0 false w4 G0 TR (fun W hW => bytes_back (BY.below hW) ccap))
  clear BY G0 TR
  go_wp2_with fail
  simp only [rounds_succ]
  go_wp2_with fail
  refine T.out.mono ?_
  rintro x w5 ⟨d, dcap, rfl, hr5, hd5, hb5⟩
  have hbb := HB4.out.trans (hb5.mono HB4.out.size)
  have P2 := O2.out.below hbb
  have hd := Nat.le_trans HB4.out.size hd5
  have c2' := P2.cell
  have f2' := P2.free
  have F := Lib.hid (And.intro (P2.set (.slice (some ⟨d, 0, none⟩) 1 dcap)) (And.intro (show CellsAt w5 d fLow from fun o u hu => hr5 o u hu) hbb))
  clear P2 hr5 hd5 hb5 hbb T
  go_wp2
  go_end0
  obtain ⟨F1, F2, F3⟩ := F.out
  refine ⟨rfl, d, dcap, F1, F2.other (by omega), hd, ?_, ?_, F3.os, F3.tape, F3.output⟩
  · have hz : (w5.setCell ⟨a2, 0, none⟩ (.slice (some ⟨d, 0, none⟩) 1 dcap)).heap.size = w5.heap.size := by simp [World.setCell]
    rw [hz]; exact F3.size
  · intro k hk h
    rw [Below.heap_setCell _ _ _ _ (by simpa using h)]
    exact F3.block k hk
end Go.Proofs.YtigpnpdpokgmkaaGreat
