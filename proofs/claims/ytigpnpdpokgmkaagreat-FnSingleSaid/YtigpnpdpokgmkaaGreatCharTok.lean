/- The contract of the character tokenizer at the text that filterAlive asks. -/
import Derived.Test.YtigpnpdpokgmkaaGreatTok
import Derived.Deep.AppendLies
import Derived.OwnWalk
set_option linter.unusedVariables false
set_option linter.unusedSimpArgs false
namespace Go.Proofs.YtigpnpdpokgmkaaGreat
open Go Go.RowKit

def sA_b : ByteArray := ⟨#[97, 32, 98]⟩
set_option maxRecDepth 20000 in
set_option maxHeartbeats 4000000 in
theorem char_tok (q c cap : Nat) (h3 : 3 ≤ cap) (hm : cap ≤ maxLen) (w : World) (hq : w.cell? ⟨q, 0, none⟩ = some fnNot) (hb : BytesB w c sA_b) :
    Calls Tryz.prog 131 #[.pointer (some ⟨q, 0, none⟩), .slice (some ⟨c, 0, none⟩) 3 cap] w fun x w' => ∃ g gcap p1 p2, x = .returned (.slice (some ⟨g, 0, none⟩) 2 gcap) ∧ w'.cell? ⟨g, 0, none⟩ = some (.pointer (some ⟨p1, 0, none⟩)) ∧ w'.cell? ⟨g, 1, none⟩ = some (.pointer (some ⟨p2, 0, none⟩)) ∧
      RowAt w' p1 #[.int .i64 0, .int .i64 1, .slice (some ⟨c, 0, none⟩) 1 cap, .int .i64 1, .int .i64 0, .bool false] ∧ RowAt w' p2 #[.int .i64 2, .int .i64 3, .slice (some ⟨c, 2, none⟩) 1 (cap - 2), .int .i64 2, .int .i64 0, .bool false] ∧ Below w.heap.size w w' := by
  unfold maxLen at hm
  have n0 : ¬ cap = 0 := by omega
  have n1 : ¬ cap = 1 := by omega
  have n2 : ¬ cap = 2 := by omega
  have m1 : 1 ≤ cap := by omega
  have m2 : 2 ≤ cap := by omega
  have d0 : w.cell? ⟨c, 0, none⟩ = some (.int .u8 (97 : Nat)) := hb 0 (by decide)
  have d1 : w.cell? ⟨c, 1, none⟩ = some (.int .u8 (32 : Nat)) := hb 1 (by decide)
  have d2 : w.cell? ⟨c, 2, none⟩ = some (.int .u8 (98 : Nat)) := hb 2 (by decide)
  have D := Lib.hid (fun (W : World) (h : Below w.heap.size w W) => (show W.cell? ⟨q, 0, none⟩ = some fnNot ∧ W.cell? ⟨c, 0, none⟩ = some (.int .u8 (97 : Nat)) ∧ W.cell? ⟨c, 1, none⟩ = some (.int .u8 (32 : Nat)) ∧ W.cell? ⟨c, 2, none⟩ = some (.int .u8 (98 : Nat)) from ⟨belowRow h hq, belowRow h d0, belowRow h d1, belowRow h d2⟩))
  clear hq hb d0 d1 d2
  obtain ⟨i, hi, hz, hsz, hby⟩ := info_parts info_tok
  have I := Lib.hid (And.intro hi (And.intro hz (And.intro hsz hby)))
  have hbm : i.bytes * 1024 ≤ 281474976710656 := by rw [hby]; omega
  have HBM := Lib.hid hbm
  clear hi hz hsz hby hbm
  have DE : ∀ (o n : Nat) (b : Nat) (z : Int) (hz : (b : Int) = z) (hn : 0 < n) (hb : b < 128) (k : Nat) (W : World), W.cell? ⟨c, o, none⟩ = some (.int .u8 (b : Nat)) → Calls Tryz.prog 93 #[.slice (some ⟨c, o, none⟩) n k] W fun x w' => x = .returned (.tuple #[.int .i32 z, .int .i64 1]) ∧ W = w' := fun o n b z hz hn hb k W h => by
    subst hz; exact decode_at c o n k b hn hb W h
  have DEC := Lib.hid DE
  clear DE
  go_enter Tryz.func131, Tryz.ntmps131
  go_wp2_with (at_make; refine wpList_make_own _ rfl _ _ 53 rfl w.heap.size 71 i (.pointer none) 1 Tryz.underlying53 I.out.1 I.out.2.1 I.out.2.2.1 _ _ 1024 1024 rfl rfl rfl HBM.out (by simp [maxLen]) (Nat.le_refl _) ?_)
  intro w1 hown1 hg1
  have B1 := Lib.hid (show Below w.heap.size w w1 from (Below.refl _ _).grown hg1 (Nat.le_refl _) (fun k hk => by cases hk))
  have O1 := Lib.hid hown1
  obtain ⟨hq, d0, d1, d2⟩ := D.out w1 B1.out
  clear hown1 hg1
  go_wp2_with fail
  refine (DEC.out 0 3 97 97 rfl (by omega) (by omega) cap w1 d0).mono ?_
  rintro x w2 ⟨rfl, rfl⟩
  go_wp2_with fail
  refine wp_loop_rounds 4 ?_
  simp only [rounds_succ]
  go_wp2_with fail
  refine (not_space 97 true (by simp) w1).mono ?_
  rintro x w2 ⟨rfl, rfl⟩
  go_wp2_with fail
  refine (DEC.out 1 2 32 32 rfl (by omega) (by omega) (cap - 1) w1 d1).mono ?_
  rintro x w2 ⟨rfl, rfl⟩
  go_wp2_with fail
  simp only [rounds_succ]
  go_wp2_with fail
  refine (not_space 32 false (by simp) w1).mono ?_
  rintro x w2 ⟨rfl, rfl⟩
  have hz1 : (w1.alloc (.cells #[.int .i64 0, .int .i64 1, .slice (some ⟨c, 0, none⟩) 1 cap, .int .i64 1, .int .i64 0, .bool false] 74)).heap.size = w1.heap.size + 1 := by simp
  have hlt1 : w.heap.size < w1.heap.size := by
    rcases O1.out.2 with ⟨h, _⟩ | ⟨g2, cap2, cur, he, _, hh, _⟩
    · cases h
    · injection he with h1
      injection h1 with h1
      injection h1 with h1
      subst h1
      exact (Array.getElem?_eq_some_iff.1 hh).1
  have N1 : ∀ j u, [Value.pointer (some ⟨w1.heap.size, 0, none⟩)][j]? = some u → ((w1.alloc (.cells #[.int .i64 0, .int .i64 1, .slice (some ⟨c, 0, none⟩) 1 cap, .int .i64 1, .int .i64 0, .bool false] 74)).alloc (.cells #[.pointer (some ⟨w1.heap.size, 0, none⟩)] 71)).cell? ((⟨w1.heap.size + 1, 0, none⟩ : Addr).add j) = some u := by
    rw [← hz1]; exact World.news_of_block (heap_alloc_new (w1.alloc (.cells #[.int .i64 0, .int .i64 1, .slice (some ⟨c, 0, none⟩) 1 cap, .int .i64 1, .int .i64 0, .bool false] 74)) (.cells #[.pointer (some ⟨w1.heap.size, 0, none⟩)] 71))
  have NN1 := Lib.hid N1
  have ONE : ∀ (q : Nat) (u : Value), u ∈ [Value.pointer (some ⟨q, 0, none⟩)] → u.oneCell' = true := fun q u hu => by rw [List.mem_singleton.1 hu]; rfl
  have OO := Lib.hid ONE
  have BA := Lib.hid (show Below w.heap.size w ((w1.alloc (.cells #[.int .i64 0, .int .i64 1, .slice (some ⟨c, 0, none⟩) 1 cap, .int .i64 1, .int .i64 0, .bool false] 74)).alloc (.cells #[.pointer (some ⟨w1.heap.size, 0, none⟩)] 71)) from (B1.out.alloc B1.out.size _).alloc (by rw [hz1]; omega) _)
  have RA := Lib.hid (show RowAt ((w1.alloc (.cells #[.int .i64 0, .int .i64 1, .slice (some ⟨c, 0, none⟩) 1 cap, .int .i64 1, .int .i64 0, .bool false] 74)).alloc (.cells #[.pointer (some ⟨w1.heap.size, 0, none⟩)] 71)) w1.heap.size #[.int .i64 0, .int .i64 1, .slice (some ⟨c, 0, none⟩) 1 cap, .int .i64 1, .int .i64 0, .bool false] from (RowAt.new w1 #[.int .i64 0, .int .i64 1, .slice (some ⟨c, 0, none⟩) 1 cap, .int .i64 1, .int .i64 0, .bool false] 74).below ((Below.refl _ _).alloc (Nat.le_refl _) _))
  have OA := Lib.hid (show ((w1.alloc (.cells #[.int .i64 0, .int .i64 1, .slice (some ⟨c, 0, none⟩) 1 cap, .int .i64 1, .int .i64 0, .bool false] 74)).alloc (.cells #[.pointer (some ⟨w1.heap.size, 0, none⟩)] 71)).ownsRow w.heap.size 71 1 (.slice (some ⟨w.heap.size, 0, none⟩) 0 1024) 0 [] from (O1.out.alloc _).alloc _)
  clear N1 ONE hz1
  go_wp2_with (at_builtin; refine wpList_append_lies _ rfl _ _ _ rfl w.heap.size 71 i (.pointer none) 1 8 Tryz.underlying53 I.out.1 I.out.2.1 I.out.2.2.1 I.out.2.2.2 rfl (by omega) (.slice (some ⟨w.heap.size, 0, none⟩) 0 1024) 0 [] rfl OA.out ⟨w1.heap.size + 1, 0, none⟩ 1 1 [.pointer (some ⟨w1.heap.size, 0, none⟩)] rfl rfl NN1.out (OO.out _) (by omega) (by simp [maxLen]) (by omega) BA.out.size (w1.heap.size + 1 + 1) (by simp) ?_)
  intro g gcap w2 hown hgrow hat hlt
  have B2 := Lib.hid (BA.out.grown hgrow BA.out.size (fun k hk => Nat.le_of_eq (Option.some.inj hk)))
  have R2 := Lib.hid (show RowAt w2 w1.heap.size #[.int .i64 0, .int .i64 1, .slice (some ⟨c, 0, none⟩) 1 cap, .int .i64 1, .int .i64 0, .bool false] from fun j u hu => (hgrow.cell_far ⟨w1.heap.size, j, none⟩ (by simp; omega) (by simp [Value.ownBlock]; omega)).trans (RA.out j u hu))
  have O2 := Lib.hid hown
  obtain ⟨P1, hP1⟩ : ∃ P, w1.heap.size = P := ⟨_, rfl⟩
  rw [hP1] at R2 O2
  obtain ⟨hq, d0, d1, d2⟩ := D.out w2 B2.out
  have hgb : w.heap.size ≤ g := by
    rcases hat with h | h
    · exact Nat.le_of_eq (Option.some.inj h)
    · omega
  clear hown hgrow hat hlt RA OA BA NN1
  go_wp2_with fail
  refine (DEC.out 2 1 98 98 rfl (by omega) (by omega) (cap - 2) w2 d2).mono ?_
  rintro x w3 ⟨rfl, rfl⟩
  go_wp2_with fail
  simp only [rounds_succ]
  go_wp2_with fail
  refine (not_space 98 true (by simp) w2).mono ?_
  rintro x w3 ⟨rfl, rfl⟩
  have hgw : g < w2.heap.size := by
    rcases O2.out.2 with ⟨h, _⟩ | ⟨g2, cap2, cur, he, _, hh, _⟩
    · cases h
    · injection he with h1
      injection h1 with h1
      injection h1 with h1
      subst h1
      exact (Array.getElem?_eq_some_iff.1 hh).1
  have hP1w : P1 < w2.heap.size := World.block_lt_of_cell? w2 ⟨P1, 0, none⟩ (R2.out 0 _ rfl)
  have hgP : g ≠ P1 := by
    rintro rfl
    have h1 := O2.out.cellAt 0 (by omega)
    have h2 := R2.out 0 _ rfl
    rw [h1] at h2
    simp at h2
  by_cases hc3 : cap = 3
  · subst hc3
    go_wp2_with fail
    refine (decode_end _ _ w2).mono ?_
    rintro x w3 ⟨rfl, rfl⟩
    have hz2 : (w2.alloc (.cells #[.int .i64 2, .int .i64 3, .slice (some ⟨c, 2, none⟩) 1 (3 - 2), .int .i64 2, .int .i64 0, .bool false] 74)).heap.size = w2.heap.size + 1 := by simp
    have N2 : ∀ j u, [Value.pointer (some ⟨w2.heap.size, 0, none⟩)][j]? = some u → ((w2.alloc (.cells #[.int .i64 2, .int .i64 3, .slice (some ⟨c, 2, none⟩) 1 (3 - 2), .int .i64 2, .int .i64 0, .bool false] 74)).alloc (.cells #[.pointer (some ⟨w2.heap.size, 0, none⟩)] 71)).cell? ((⟨w2.heap.size + 1, 0, none⟩ : Addr).add j) = some u := by
      rw [← hz2]; exact World.news_of_block (heap_alloc_new (w2.alloc (.cells #[.int .i64 2, .int .i64 3, .slice (some ⟨c, 2, none⟩) 1 (3 - 2), .int .i64 2, .int .i64 0, .bool false] 74)) (.cells #[.pointer (some ⟨w2.heap.size, 0, none⟩)] 71))
    have NN2 := Lib.hid N2
    have BA := Lib.hid (show Below w.heap.size w ((w2.alloc (.cells #[.int .i64 2, .int .i64 3, .slice (some ⟨c, 2, none⟩) 1 (3 - 2), .int .i64 2, .int .i64 0, .bool false] 74)).alloc (.cells #[.pointer (some ⟨w2.heap.size, 0, none⟩)] 71)) from (B2.out.alloc B2.out.size _).alloc (by rw [hz2]; have := B2.out.size; omega) _)
    have RA := Lib.hid (show RowAt ((w2.alloc (.cells #[.int .i64 2, .int .i64 3, .slice (some ⟨c, 2, none⟩) 1 (3 - 2), .int .i64 2, .int .i64 0, .bool false] 74)).alloc (.cells #[.pointer (some ⟨w2.heap.size, 0, none⟩)] 71)) w2.heap.size #[.int .i64 2, .int .i64 3, .slice (some ⟨c, 2, none⟩) 1 (3 - 2), .int .i64 2, .int .i64 0, .bool false] from (RowAt.new w2 #[.int .i64 2, .int .i64 3, .slice (some ⟨c, 2, none⟩) 1 (3 - 2), .int .i64 2, .int .i64 0, .bool false] 74).below ((Below.refl _ _).alloc (Nat.le_refl _) _))
    have RP := Lib.hid (show RowAt ((w2.alloc (.cells #[.int .i64 2, .int .i64 3, .slice (some ⟨c, 2, none⟩) 1 (3 - 2), .int .i64 2, .int .i64 0, .bool false] 74)).alloc (.cells #[.pointer (some ⟨w2.heap.size, 0, none⟩)] 71)) P1 #[.int .i64 0, .int .i64 1, .slice (some ⟨c, 0, none⟩) 1 3, .int .i64 1, .int .i64 0, .bool false] from R2.out.below (((Below.refl _ _).alloc (Nat.le_refl _) _).alloc (by rw [hz2]; omega) _))
    have OA := Lib.hid (show ((w2.alloc (.cells #[.int .i64 2, .int .i64 3, .slice (some ⟨c, 2, none⟩) 1 (3 - 2), .int .i64 2, .int .i64 0, .bool false] 74)).alloc (.cells #[.pointer (some ⟨w2.heap.size, 0, none⟩)] 71)).ownsRow w.heap.size 71 1 (.slice (some ⟨g, 0, none⟩) (0 + 1) gcap) (0 + 1) ([] ++ [.pointer (some ⟨P1, 0, none⟩)]) from (O2.out.alloc _).alloc _)
    clear N2 hz2
    go_wp2_with fail
    simp only [rounds_succ]
    go_wp2_with (at_builtin; refine wpList_append_lies _ rfl _ _ _ rfl w.heap.size 71 i (.pointer none) 1 8 Tryz.underlying53 I.out.1 I.out.2.1 I.out.2.2.1 I.out.2.2.2 rfl (by omega) (.slice (some ⟨g, 0, none⟩) (0 + 1) gcap) (0 + 1) ([] ++ [.pointer (some ⟨P1, 0, none⟩)]) rfl OA.out ⟨w2.heap.size + 1, 0, none⟩ 1 1 [.pointer (some ⟨w2.heap.size, 0, none⟩)] rfl rfl NN2.out (OO.out _) (by omega) (by simp [maxLen]) (by omega) BA.out.size (w2.heap.size + 1 + 1) (by simp) ?_)
    intro g2 gcap2 w3 hown hgrow hat hlt
    have B3 := Lib.hid (BA.out.grown hgrow BA.out.size (fun k hk => (Option.some.inj hk) ▸ hgb))
    have hg1 := hown.cellAt 0 (by omega)
    have hg2 := hown.cellAt 1 (by omega)
    have R3 := Lib.hid (show RowAt w3 w2.heap.size #[.int .i64 2, .int .i64 3, .slice (some ⟨c, 2, none⟩) 1 (3 - 2), .int .i64 2, .int .i64 0, .bool false] from fun j u hu => (hgrow.cell_far ⟨w2.heap.size, j, none⟩ (by simp; omega) (by simp [Value.ownBlock]; omega)).trans (RA.out j u hu))
    have R1 := Lib.hid (show RowAt w3 P1 #[.int .i64 0, .int .i64 1, .slice (some ⟨c, 0, none⟩) 1 3, .int .i64 1, .int .i64 0, .bool false] from fun j u hu => (hgrow.cell_far ⟨P1, j, none⟩ (by simp; omega) (by simp [Value.ownBlock]; omega)).trans (RP.out j u hu))
    have HG := Lib.hid (show w3.cell? ⟨g2, 0, none⟩ = some (.pointer (some ⟨P1, 0, none⟩)) ∧ w3.cell? ⟨g2, 1, none⟩ = some (.pointer (some ⟨w2.heap.size, 0, none⟩)) from ⟨by simpa using hg1, by simpa using hg2⟩)
    obtain ⟨P2, hP2⟩ : ∃ P, w2.heap.size = P := ⟨_, rfl⟩
    rw [hP2] at R3 HG
    clear hown hgrow hat hlt hg1 hg2 RA BA NN2 RP OA hq d0 d1 d2
    go_wp2
    go_ret
    exact ⟨g2, gcap2, P1, P2, rfl, HG.out.1, HG.out.2, R1.out, R3.out, B3.out⟩
  · have m3 : 3 ≤ cap := h3
    go_wp2_with fail
    refine (decode_end _ _ w2).mono ?_
    rintro x w3 ⟨rfl, rfl⟩
    have hz2 : (w2.alloc (.cells #[.int .i64 2, .int .i64 3, .slice (some ⟨c, 2, none⟩) 1 (cap - 2), .int .i64 2, .int .i64 0, .bool false] 74)).heap.size = w2.heap.size + 1 := by simp
    have N2 : ∀ j u, [Value.pointer (some ⟨w2.heap.size, 0, none⟩)][j]? = some u → ((w2.alloc (.cells #[.int .i64 2, .int .i64 3, .slice (some ⟨c, 2, none⟩) 1 (cap - 2), .int .i64 2, .int .i64 0, .bool false] 74)).alloc (.cells #[.pointer (some ⟨w2.heap.size, 0, none⟩)] 71)).cell? ((⟨w2.heap.size + 1, 0, none⟩ : Addr).add j) = some u := by
      rw [← hz2]; exact World.news_of_block (heap_alloc_new (w2.alloc (.cells #[.int .i64 2, .int .i64 3, .slice (some ⟨c, 2, none⟩) 1 (cap - 2), .int .i64 2, .int .i64 0, .bool false] 74)) (.cells #[.pointer (some ⟨w2.heap.size, 0, none⟩)] 71))
    have NN2 := Lib.hid N2
    have BA := Lib.hid (show Below w.heap.size w ((w2.alloc (.cells #[.int .i64 2, .int .i64 3, .slice (some ⟨c, 2, none⟩) 1 (cap - 2), .int .i64 2, .int .i64 0, .bool false] 74)).alloc (.cells #[.pointer (some ⟨w2.heap.size, 0, none⟩)] 71)) from (B2.out.alloc B2.out.size _).alloc (by rw [hz2]; have := B2.out.size; omega) _)
    have RA := Lib.hid (show RowAt ((w2.alloc (.cells #[.int .i64 2, .int .i64 3, .slice (some ⟨c, 2, none⟩) 1 (cap - 2), .int .i64 2, .int .i64 0, .bool false] 74)).alloc (.cells #[.pointer (some ⟨w2.heap.size, 0, none⟩)] 71)) w2.heap.size #[.int .i64 2, .int .i64 3, .slice (some ⟨c, 2, none⟩) 1 (cap - 2), .int .i64 2, .int .i64 0, .bool false] from (RowAt.new w2 #[.int .i64 2, .int .i64 3, .slice (some ⟨c, 2, none⟩) 1 (cap - 2), .int .i64 2, .int .i64 0, .bool false] 74).below ((Below.refl _ _).alloc (Nat.le_refl _) _))
    have RP := Lib.hid (show RowAt ((w2.alloc (.cells #[.int .i64 2, .int .i64 3, .slice (some ⟨c, 2, none⟩) 1 (cap - 2), .int .i64 2, .int .i64 0, .bool false] 74)).alloc (.cells #[.pointer (some ⟨w2.heap.size, 0, none⟩)] 71)) P1 #[.int .i64 0, .int .i64 1, .slice (some ⟨c, 0, none⟩) 1 cap, .int .i64 1, .int .i64 0, .bool false] from R2.out.below (((Below.refl _ _).alloc (Nat.le_refl _) _).alloc (by rw [hz2]; omega) _))
    have OA := Lib.hid (show ((w2.alloc (.cells #[.int .i64 2, .int .i64 3, .slice (some ⟨c, 2, none⟩) 1 (cap - 2), .int .i64 2, .int .i64 0, .bool false] 74)).alloc (.cells #[.pointer (some ⟨w2.heap.size, 0, none⟩)] 71)).ownsRow w.heap.size 71 1 (.slice (some ⟨g, 0, none⟩) (0 + 1) gcap) (0 + 1) ([] ++ [.pointer (some ⟨P1, 0, none⟩)]) from (O2.out.alloc _).alloc _)
    clear N2 hz2
    go_wp2_with fail
    simp only [rounds_succ]
    go_wp2_with (at_builtin; refine wpList_append_lies _ rfl _ _ _ rfl w.heap.size 71 i (.pointer none) 1 8 Tryz.underlying53 I.out.1 I.out.2.1 I.out.2.2.1 I.out.2.2.2 rfl (by omega) (.slice (some ⟨g, 0, none⟩) (0 + 1) gcap) (0 + 1) ([] ++ [.pointer (some ⟨P1, 0, none⟩)]) rfl OA.out ⟨w2.heap.size + 1, 0, none⟩ 1 1 [.pointer (some ⟨w2.heap.size, 0, none⟩)] rfl rfl NN2.out (OO.out _) (by omega) (by simp [maxLen]) (by omega) BA.out.size (w2.heap.size + 1 + 1) (by simp) ?_)
    intro g2 gcap2 w3 hown hgrow hat hlt
    have B3 := Lib.hid (BA.out.grown hgrow BA.out.size (fun k hk => (Option.some.inj hk) ▸ hgb))
    have hg1 := hown.cellAt 0 (by omega)
    have hg2 := hown.cellAt 1 (by omega)
    have R3 := Lib.hid (show RowAt w3 w2.heap.size #[.int .i64 2, .int .i64 3, .slice (some ⟨c, 2, none⟩) 1 (cap - 2), .int .i64 2, .int .i64 0, .bool false] from fun j u hu => (hgrow.cell_far ⟨w2.heap.size, j, none⟩ (by simp; omega) (by simp [Value.ownBlock]; omega)).trans (RA.out j u hu))
    have R1 := Lib.hid (show RowAt w3 P1 #[.int .i64 0, .int .i64 1, .slice (some ⟨c, 0, none⟩) 1 cap, .int .i64 1, .int .i64 0, .bool false] from fun j u hu => (hgrow.cell_far ⟨P1, j, none⟩ (by simp; omega) (by simp [Value.ownBlock]; omega)).trans (RP.out j u hu))
    have HG := Lib.hid (show w3.cell? ⟨g2, 0, none⟩ = some (.pointer (some ⟨P1, 0, none⟩)) ∧ w3.cell? ⟨g2, 1, none⟩ = some (.pointer (some ⟨w2.heap.size, 0, none⟩)) from ⟨by simpa using hg1, by simpa using hg2⟩)
    obtain ⟨P2, hP2⟩ : ∃ P, w2.heap.size = P := ⟨_, rfl⟩
    rw [hP2] at R3 HG
    clear hown hgrow hat hlt hg1 hg2 RA BA NN2 RP OA hq d0 d1 d2
    go_wp2
    go_ret
    exact ⟨g2, gcap2, P1, P2, rfl, HG.out.1, HG.out.2, R1.out, R3.out, B3.out⟩
end Go.Proofs.YtigpnpdpokgmkaaGreat
