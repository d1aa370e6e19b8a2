/- The contracts of ReplaceSuffixRunes and ReplaceSuffix. -/
import Derived.Test.YtaohmmpfiehniaaRemoves
set_option linter.unusedVariables false
set_option linter.unusedSimpArgs false
namespace Go.Proofs.Ytaohmmpfiehniaa
open Go Go.RowKit

set_option maxHeartbeats 4000000 in
theorem replace_yes (p B c ccap d dcap : Nat) (r1 r2 rv : Int) (rs cs ds : List Int) (f : Bool) (hyes : f = false → cs <:+ rs) (hm : cs.length ≤ rs.length) (hn : rs.length ≤ 2147483647) (hcn : cs.length ≤ 2147483647) (hdn : ds.length ≤ 2147483647) (w : World)
    (h : WS w p B rs r1 r2 rv) (hc : RunesAt w c cs) (hd : RunesAt w d ds) :
    Calls Try.prog 34 #[.pointer (some ⟨p, 0, none⟩), .slice (some ⟨c, 0, none⟩) cs.length ccap, .slice (some ⟨d, 0, none⟩) ds.length dcap, .bool f] w fun x w' => x = .returned (.bool true) ∧
      WS w' p B (rs.take (rs.length - cs.length) ++ ds) (lim r1 (rs.length - cs.length + ds.length : Nat)) (lim r2 (rs.length - cs.length + ds.length : Nat)) (lim rv (rs.length - cs.length + ds.length : Nat)) ∧ (B ≤ w.heap.size → Below B w w') := by
  obtain ⟨⟨b, cap, hw, hr, hpb, hBb⟩, hBp⟩ := h
  have hlen : (rs.take (rs.length - cs.length)).length = rs.length - cs.length := by rw [List.length_take]; omega
  have own := (hr.take (rs.length - cs.length)).row
  rw [hlen] at own
  have src := src_runes (P := Try.prog) Try.underlying24 d dcap ds hd
  have F := Lib.hid (has_suffix p b cap c ccap r1 r2 rv rs cs hn hcn w hw hr.at hc)
  have c0 : w.cell? ⟨p, 0, none⟩ = some (.slice (some ⟨b, 0, none⟩) rs.length cap) := hw.row 0 _ rfl
  have hlt : p < w.heap.size := (Array.getElem?_eq_some_iff.1 (show w.heap[p]? = _ from hw)).1
  have hcm := hr.max
  have hle := hr.le
  unfold maxLen at hcm
  obtain ⟨n, hnn⟩ : ∃ n, rs.length = n := ⟨_, rfl⟩
  obtain ⟨m, hmm⟩ : ∃ m, ds.length = m := ⟨_, rfl⟩
  obtain ⟨l, hll⟩ : ∃ l, cs.length = l := ⟨_, rfl⟩
  have hw4 : IntKind.i64.wrap ((n : Int) - (l : Int)) = ((n - l : Nat) : Int) := by rw [Int.ofNat_sub (by omega)]; simp [IntKind.wrap, IntKind.min, IntKind.max, IntKind.signed, IntKind.bits]; omega
  have OUT := Lib.hid (fun (e : Nat) (w2 : World) (g cap' : Nat) (hown : w2.ownsRow 0 21 1 (.slice (some ⟨g, 0, none⟩) (rs.length - cs.length + ds.length) cap') (rs.length - cs.length + ds.length) ((rs.take (rs.length - cs.length)).map (Value.int .i32) ++ ds.map (Value.int .i32))) (hgr : (w.drewN e).grownBy w2 (some b)) (hg : g = b ∨ g = (w.drewN e).heap.size) =>
    (show WordAt w2 p (wordRow b rs.length cap r1 r2 rv) ∧ RunesOwn w2 g cap' (rs.take (rs.length - cs.length) ++ ds) ∧ p ≠ g ∧ (B ≤ w.heap.size → B ≤ g) ∧ (B ≤ w.heap.size → Below B w w2) from by
      refine ⟨?_, runesOwn_of ?_, ?_, ?_, ?_⟩
      · exact (hgr.block p hlt (by simpa using hpb)).trans hw
      · rw [List.length_append, hlen, List.map_append]; exact hown
      · rcases hg with rfl | rfl
        · exact hpb
        · exact Nat.ne_of_lt hlt
      · intro hB
        rcases hg with rfl | rfl
        · exact hBb
        · exact hB
      · intro hB
        exact ⟨hgr.os, hgr.tape, hgr.output, hgr.size, fun k hk => hgr.block k (Nat.lt_of_lt_of_le hk hB) (by simp; omega)⟩))
  have FIN := Lib.hid (fun (w2 w3 : World) (g cap' : Nat) (h1 : RunesOwn w2 g cap' (rs.take (rs.length - cs.length) ++ ds)) (h2 : p ≠ g) (h3 : B ≤ w.heap.size → B ≤ g) (h4 : B ≤ w.heap.size → Below B w w2) (h5 : WordAt w3 p (wordRow g (rs.length - cs.length + ds.length) cap' (lim r1 (rs.length - cs.length + ds.length : Nat)) (lim r2 (rs.length - cs.length + ds.length : Nat)) (lim rv (rs.length - cs.length + ds.length : Nat)))) (h6 : Touch p w2 w3) =>
    (show Ending.returned (.bool true) = .returned (.bool true) ∧ WS w3 p B (rs.take (rs.length - cs.length) ++ ds) (lim r1 (rs.length - cs.length + ds.length : Nat)) (lim r2 (rs.length - cs.length + ds.length : Nat)) (lim rv (rs.length - cs.length + ds.length : Nat)) ∧ (B ≤ w.heap.size → Below B w w3) from
      ⟨rfl, ⟨⟨g, cap', by rw [List.length_append, hlen]; exact h5, h1.touch h6 (Ne.symm h2), h2, h3 (Nat.le_of_lt (Nat.lt_of_le_of_lt hBp hlt))⟩, hBp⟩, fun hB => (h4 hB).trans (h6.below hBp (Nat.le_trans hB (h4 hB).size))⟩))
  rw [hnn, hmm, hll] at OUT FIN ⊢
  rw [hll] at F
  rw [hnn, hll] at own
  rw [hmm] at src
  rw [hnn] at c0 hle
  have HY := Lib.hid hyes
  obtain ⟨q, hq⟩ : ∃ q, n - l = q := ⟨_, rfl⟩
  have hqc : q ≤ cap := by omega
  have hqn : q ≤ 2147483647 := by omega
  have hmn : m ≤ 2147483647 := by omega
  rw [hq] at OUT FIN hw4 own ⊢
  have OWN := Lib.hid (fun e : Nat => And.intro (show (w.drewN e).ownsRow 0 21 1 (.slice (some ⟨b, 0, none⟩) q cap) q ((rs.take q).map (Value.int .i32)) from own) (show Src Try.prog 1 24 (.slice (some ⟨d, 0, none⟩) m dcap) m (ds.map (Value.int .i32)) (w.drewN e) from by
    have s := src_runes (P := Try.prog) (w := w.drewN e) Try.underlying24 d dcap ds hd
    rw [hmm] at s
    exact s))
  obtain ⟨xs, hxs⟩ : ∃ xs, (rs.take q).map (Value.int .i32) = xs := ⟨_, rfl⟩
  obtain ⟨ys, hys⟩ : ∃ ys, ds.map (Value.int .i32) = ys := ⟨_, rfl⟩
  rw [hxs, hys] at OWN OUT
  clear hxs hys
  clear hm hlen own src hyes hw hr hc hd hnn hmm hll hq hn hcn hdn hlt
  cases f with
  | true =>
    go_enter Try.func34, Try.ntmps34
    go_wp2_with (at_builtin; refine wpList_append_some _ rfl _ _ 24 24 rfl 0 21 (.int .i32 0) 1 4 Try.underlying24 info_rune rfl (by decide) b cap q xs rfl ?own _ m ys rfl ?src ?h63 ?hb ?base ?_)
    case own => exact (OWN.out 0).1
    case src => exact (OWN.out 0).2
    case h63 => simp only [maxLen]; omega
    case hb => omega
    intro g cap' w2 hown hgr hg
    obtain ⟨G1, G2, G3, G4, G5⟩ := OUT.out 0 w2 g cap' hown hgr hg
    have k0 : w2.cell? ⟨p, 0, none⟩ = some (.slice (some ⟨b, 0, none⟩) n cap) := G1.row 0 _ rfl
    have fz : ∀ i, w2.frozen? ⟨p, i, none⟩ = false := G1.free
    have H1 := Lib.hid (show WordAt (w2.setCell ⟨p, 0, none⟩ (.slice (some ⟨g, 0, none⟩) (q + m) cap')) p (wordRow g (q + m) cap' r1 r2 rv) from G1.set 0 _)
    have HG := Lib.hid (And.intro G2 (And.intro G3 (And.intro G4 G5)))
    clear G1 G2 G3 G4 G5 hown hgr hg c0
    go_wp2_with fail
    refine (reset_word p g (q + m) cap' r1 r2 rv _ H1.out).mono ?_
    rintro x w3 ⟨rfl, h4, ht⟩
    have H4 := Lib.hid h4
    have HT := Lib.hid (((Touch.refl p w2).set _ _).trans ht)
    clear h4 ht
    go_wp2
    go_ret
    exact ⟨rfl, (FIN.out w2 w3 g cap' HG.out.1 HG.out.2.1 HG.out.2.2.1 HG.out.2.2.2 H4.out HT.out).2⟩
  | false =>
    have hsuf : decide (cs <:+ rs) = true := by simpa using HY.out rfl
    rw [hsuf] at F
    clear hsuf
    go_enter Try.func34, Try.ntmps34
    go_wp2_with fail
    refine F.out.mono ?_
    rintro x w1 ⟨rfl, e, rfl⟩
    have c0' : (w.drewN e).cell? ⟨p, 0, none⟩ = some (.slice (some ⟨b, 0, none⟩) n cap) := c0
    go_wp2_with (at_builtin; refine wpList_append_some _ rfl _ _ 24 24 rfl 0 21 (.int .i32 0) 1 4 Try.underlying24 info_rune rfl (by decide) b cap q xs rfl ?own _ m ys rfl ?src ?h63 ?hb ?base ?_)
    case own => exact (OWN.out e).1
    case src => exact (OWN.out e).2
    case h63 => simp only [maxLen]; omega
    case hb => omega
    intro g cap' w2 hown hgr hg
    obtain ⟨G1, G2, G3, G4, G5⟩ := OUT.out e w2 g cap' hown hgr hg
    have k0 : w2.cell? ⟨p, 0, none⟩ = some (.slice (some ⟨b, 0, none⟩) n cap) := G1.row 0 _ rfl
    have fz : ∀ i, w2.frozen? ⟨p, i, none⟩ = false := G1.free
    have H1 := Lib.hid (show WordAt (w2.setCell ⟨p, 0, none⟩ (.slice (some ⟨g, 0, none⟩) (q + m) cap')) p (wordRow g (q + m) cap' r1 r2 rv) from G1.set 0 _)
    have HG := Lib.hid (And.intro G2 (And.intro G3 (And.intro G4 G5)))
    clear G1 G2 G3 G4 G5 hown hgr hg c0
    go_wp2_with fail
    refine (reset_word p g (q + m) cap' r1 r2 rv _ H1.out).mono ?_
    rintro x w3 ⟨rfl, h4, ht⟩
    have H4 := Lib.hid h4
    have HT := Lib.hid (((Touch.refl p w2).set _ _).trans ht)
    clear h4 ht
    go_wp2
    go_ret
    exact ⟨rfl, (FIN.out w2 w3 g cap' HG.out.1 HG.out.2.1 HG.out.2.2.1 HG.out.2.2.2 H4.out HT.out).2⟩

set_option maxHeartbeats 1000000 in
theorem replace_no (p B c ccap d dcap : Nat) (r1 r2 rv : Int) (rs cs ds : List Int) (hno : ¬ cs <:+ rs) (hn : rs.length ≤ 2147483647) (hcn : cs.length ≤ 2147483647) (w : World)
    (h : WS w p B rs r1 r2 rv) (hc : RunesAt w c cs) :
    Calls Try.prog 34 #[.pointer (some ⟨p, 0, none⟩), .slice (some ⟨c, 0, none⟩) cs.length ccap, .slice (some ⟨d, 0, none⟩) ds.length dcap, .bool false] w fun x w' => x = .returned (.bool false) ∧ ∃ e, w' = w.drewN e := by
  obtain ⟨⟨b, cap, hw, hr, hpb, hBb⟩, hBp⟩ := h
  have F := Lib.hid (has_suffix p b cap c ccap r1 r2 rv rs cs hn hcn w hw hr.at hc)
  have hsuf : decide (cs <:+ rs) = false := by simpa using hno
  rw [hsuf] at F
  clear hsuf hw hr hc hno
  go_enter Try.func34, Try.ntmps34
  go_wp2_with fail
  refine F.out.mono ?_
  rintro x w1 ⟨rfl, e, rfl⟩
  go_wp2
  go_ret
  exact ⟨rfl, e, rfl⟩
end Go.Proofs.Ytaohmmpfiehniaa
