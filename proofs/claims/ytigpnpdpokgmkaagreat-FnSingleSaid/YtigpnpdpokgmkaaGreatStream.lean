/- The contract of impl.stream at one token; a text as bytes. -/
import Derived.Test.YtigpnpdpokgmkaaGreatLow
import Derived.Laws.IdiomStrings
import Derived.Laws.AppendOwn
set_option linter.unusedVariables false
set_option linter.unusedSimpArgs false
namespace Go.Proofs.YtigpnpdpokgmkaaGreat
open Go Go.RowKit

theorem info_tok : (Tryz.prog.info? 71).map (fun i => (i.zero, i.size, i.bytes)) = some (some (.pointer none), 1, 8) := by kernel_rfl

/-- The bytes of a text lie in a block. -/
def BytesB (w : World) (c : Nat) (s : ByteArray) : Prop := ∀ i (h : i < s.data.size), w.cell? ⟨c, i, none⟩ = some (.int .u8 (s.data[i].toNat : Int))
theorem BytesB.below {w w1 : World} {c : Nat} {s : ByteArray} (h : BytesB w c s) (hb : Below w.heap.size w w1) : BytesB w1 c s := fun i hi => belowRow hb (h i hi)
def bytesCap (w : World) (s : ByteArray) : Nat := grownCap w s.size 0 5
def bytesW (w : World) (s : ByteArray) : World := w.drew.alloc (.cells (bytesRow s (grownCap w s.size 0 5)) 5 ((bytesRow s (grownCap w s.size 0 5)).size, (bytesRow s (grownCap w s.size 0 5)).size + 1))
theorem bytes_conv (s : ByteArray) (w : World) : (convert 9 64 (.string s)).run Tryz.prog w = .ok (.slice (some ⟨w.heap.size, 0, none⟩) s.size (bytesCap w s)) (bytesW w s) :=
  run_bytes_of_string w 9 64 5 s Tryz.underlying9 Tryz.underlying64 Tryz.underlying5
theorem bytesW_below (s : ByteArray) (w : World) : Below w.heap.size w (bytesW w s) := (below_drewN (Below.refl _ _) 1).alloc (Nat.le_refl _) _
theorem bytesW_size (s : ByteArray) (w : World) : (bytesW w s).heap.size = w.heap.size + 1 := by unfold bytesW; simp
theorem bytesW_at (s : ByteArray) (w : World) : (bytesW w s).heap[w.heap.size]? = some (.cells (bytesRow s (grownCap w s.size 0 5)) 5 ((bytesRow s (grownCap w s.size 0 5)).size, (bytesRow s (grownCap w s.size 0 5)).size + 1)) := heap_alloc_new w.drew _
theorem bytesW_cells (s : ByteArray) (w : World) : BytesB (bytesW w s) w.heap.size s := fun i hi => by
  unfold World.cell?
  rw [show (bytesW w s).heap[(⟨w.heap.size, i, none⟩ : Addr).block]? = _ from bytesW_at s w]
  simpa using bytesRow_at s _ i hi
theorem bytesW_free (s : ByteArray) (w : World) (i : Nat) (hi : i < s.size) : (bytesW w s).frozen? ⟨w.heap.size, i, none⟩ = false := by
  unfold World.frozen?
  rw [show (bytesW w s).heap[(⟨w.heap.size, i, none⟩ : Addr).block]? = _ from bytesW_at s w]
  have : s.size ≤ (bytesRow s (grownCap w s.size 0 5)).size := by
    unfold bytesRow; rw [Array.size_append, Array.size_map]; exact Nat.le_add_right _ _
  simp; omega
theorem bytesCap_le (s : ByteArray) (w : World) : s.size ≤ bytesCap w s := grownCap_ge _ _ _ _
theorem bytesCap_max (s : ByteArray) (h : s.size ≤ maxLen) (w : World) : bytesCap w s ≤ maxLen := grownCap_le_maxLen _ _ _ _ (by omega)
theorem bytes_back {c : Nat} {s : ByteArray} {w : World} (h : BytesB w c s) (cap : Nat) : (convert 64 9 (.slice (some ⟨c, 0, none⟩) s.size cap)).run Tryz.prog w = .ok (.string s) w := by
  have := run_convert_bytes_back (P := Tryz.prog) w 64 9 5 ⟨c, 0, none⟩ cap s.data.toList Tryz.underlying64 Tryz.underlying5 Tryz.underlying9 (fun j hj => by
    rw [add_plain]
    have hj' : j < s.data.size := by simpa using hj
    rw [h j hj']
    simp)
  have e : s.data.toList.length = s.size := by rw [Array.length_toList]; rfl
  rw [e] at this
  rw [this]

/-- A token of the package. -/
def TokAt (w : World) (p : Nat) (cs : Array Value) : Prop := w.heap[p]? = some (.cells cs 74 (0, 0))
theorem TokAt.below {w w1 : World} {p : Nat} {cs : Array Value} (h : TokAt w p cs) (hb : Below w.heap.size w w1) : TokAt w1 p cs := by
  unfold TokAt at h ⊢
  rw [hb.block p (by have := (Array.getElem?_eq_some_iff.1 h).1; exact this)]; exact h
theorem TokAt.row {w : World} {p : Nat} {cs : Array Value} (h : TokAt w p cs) : RowAt w p cs := by
  intro i x hx; unfold World.cell?; rw [show w.heap[(⟨p, i, none⟩ : Addr).block]? = _ from h]; simpa using hx
theorem TokAt.free {w : World} {p : Nat} {cs : Array Value} (h : TokAt w p cs) (i : Nat) : w.frozen? ⟨p, i, none⟩ = false := by
  unfold World.frozen?; rw [show w.heap[(⟨p, i, none⟩ : Addr).block]? = _ from h]; simp
theorem TokAt.other {w : World} {p : Nat} {cs : Array Value} (h : TokAt w p cs) {c j : Nat} (hn : p ≠ c) (y : Value) : TokAt (w.setCell ⟨c, j, none⟩ y) p cs := by
  unfold TokAt at h ⊢; rw [Below.heap_setCell _ _ _ _ (by simpa using hn)]; exact h

def sAbC : ByteArray := ⟨#[65, 98, 67]⟩
set_option maxHeartbeats 2000000 in
theorem stream_one (b : Nat) (w : World) (hs : RowAt w b #[.string sAbC, .int .i64 2, .int .i64 5, .int .i64 1, .int .i64 0, .bool false]) :
    Calls Tryz.prog 28 #[.slice (some ⟨b, 0, none⟩) 1 1] w fun x w' => ∃ g gcap p c ccap, x = .returned (.slice (some ⟨g, 0, none⟩) 1 gcap) ∧ w'.cell? ⟨g, 0, none⟩ = some (.pointer (some ⟨p, 0, none⟩)) ∧
      TokAt w' p #[.int .i64 2, .int .i64 5, .slice (some ⟨c, 0, none⟩) 3 ccap, .int .i64 1, .int .i64 0, .bool false] ∧ BytesB w' c sAbC ∧ (∀ i, i < 3 → w'.frozen? ⟨c, i, none⟩ = false) ∧ 3 ≤ ccap ∧ ccap ≤ maxLen ∧ w.heap.size ≤ c ∧ w.heap.size ≤ p ∧ c ≠ p ∧ g ≠ c ∧ g ≠ p ∧ Below w.heap.size w w' := by
  have k0 : w.cell? ⟨b, 0, none⟩ = some (.string sAbC) := hs 0 _ rfl
  have k1 : w.cell? ⟨b, 1, none⟩ = some (.int .i64 2) := hs 1 _ rfl
  have k2 : w.cell? ⟨b, 2, none⟩ = some (.int .i64 5) := hs 2 _ rfl
  have k3 : w.cell? ⟨b, 3, none⟩ = some (.int .i64 1) := hs 3 _ rfl
  have k4 : w.cell? ⟨b, 4, none⟩ = some (.int .i64 0) := hs 4 _ rfl
  have k5 : w.cell? ⟨b, 5, none⟩ = some (.bool false) := hs 5 _ rfl
  have hcv := bytes_conv sAbC
  have hsz : sAbC.size = 3 := rfl
  rw [hsz] at hcv
  have hr := RowAt.new w #[.string sAbC, .int .i64 2, .int .i64 5, .int .i64 1, .int .i64 0, .bool false] 37
  have hb1 : Below w.heap.size w (w.alloc (.cells #[.string sAbC, .int .i64 2, .int .i64 5, .int .i64 1, .int .i64 0, .bool false] 37)) := (Below.refl _ _).alloc (Nat.le_refl _) _
  have hz1 : (w.alloc (.cells #[.string sAbC, .int .i64 2, .int .i64 5, .int .i64 1, .int .i64 0, .bool false] 37)).heap.size = w.heap.size + 1 := by simp
  have hr2 := hr.below (bytesW_below sAbC (w.alloc (.cells #[.string sAbC, .int .i64 2, .int .i64 5, .int .i64 1, .int .i64 0, .bool false] 37)))
  have d1 : (bytesW (w.alloc (.cells #[.string sAbC, .int .i64 2, .int .i64 5, .int .i64 1, .int .i64 0, .bool false] 37)) sAbC).cell? ⟨w.heap.size, 1, none⟩ = some (.int .i64 2) := hr2 1 _ rfl
  have d2 : (bytesW (w.alloc (.cells #[.string sAbC, .int .i64 2, .int .i64 5, .int .i64 1, .int .i64 0, .bool false] 37)) sAbC).cell? ⟨w.heap.size, 2, none⟩ = some (.int .i64 5) := hr2 2 _ rfl
  have d3 : (bytesW (w.alloc (.cells #[.string sAbC, .int .i64 2, .int .i64 5, .int .i64 1, .int .i64 0, .bool false] 37)) sAbC).cell? ⟨w.heap.size, 3, none⟩ = some (.int .i64 1) := hr2 3 _ rfl
  have d4 : (bytesW (w.alloc (.cells #[.string sAbC, .int .i64 2, .int .i64 5, .int .i64 1, .int .i64 0, .bool false] 37)) sAbC).cell? ⟨w.heap.size, 4, none⟩ = some (.int .i64 0) := hr2 4 _ rfl
  have d5 : (bytesW (w.alloc (.cells #[.string sAbC, .int .i64 2, .int .i64 5, .int .i64 1, .int .i64 0, .bool false] 37)) sAbC).cell? ⟨w.heap.size, 5, none⟩ = some (.bool false) := hr2 5 _ rfl
  have hz2 : (bytesW (w.alloc (.cells #[.string sAbC, .int .i64 2, .int .i64 5, .int .i64 1, .int .i64 0, .bool false] 37)) sAbC).heap.size = w.heap.size + 1 + 1 := by rw [bytesW_size, hz1]
  have hb2 := hb1.trans ((bytesW_below sAbC (w.alloc (.cells #[.string sAbC, .int .i64 2, .int .i64 5, .int .i64 1, .int .i64 0, .bool false] 37))).mono hb1.size)
  have BB := Lib.hid (And.intro (bytesW_cells sAbC (w.alloc (.cells #[.string sAbC, .int .i64 2, .int .i64 5, .int .i64 1, .int .i64 0, .bool false] 37))) (And.intro (bytesW_free sAbC (w.alloc (.cells #[.string sAbC, .int .i64 2, .int .i64 5, .int .i64 1, .int .i64 0, .bool false] 37))) (And.intro (bytesCap_le sAbC (w.alloc (.cells #[.string sAbC, .int .i64 2, .int .i64 5, .int .i64 1, .int .i64 0, .bool false] 37))) (bytesCap_max sAbC (by rw [hsz]; simp [maxLen]) (w.alloc (.cells #[.string sAbC, .int .i64 2, .int .i64 5, .int .i64 1, .int .i64 0, .bool false] 37))))))
  rw [hz1] at BB
  have HB2 := Lib.hid hb2
  clear hs hr hr2 hb1 hb2 hsz
  go_enter Tryz.func28, Tryz.ntmps28
  go_wp2
  refine wp_loop_rounds 2 ?_
  simp only [rounds_succ]
  generalize hcc : bytesCap (w.alloc (.cells #[.string sAbC, .int .i64 2, .int .i64 5, .int .i64 1, .int .i64 0, .bool false] 37)) sAbC = ccap at *
  go_wp2_with (at_builtin; refine wpList_append_own_src _ rfl _ _ 53 53 rfl w.heap.size 71 (.pointer none) 1 8 Tryz.underlying53 info_tok rfl (by decide) _ 0 [] rfl (World.ownsRow_nil _ _ _ _) _ 1 [.pointer (some ⟨w.heap.size + 1 + 1, 0, none⟩)] rfl ?src ?h63 ?hb ?base ?_)
  all_goals generalize bytesW (w.alloc (.cells #[.string sAbC, .int .i64 2, .int .i64 5, .int .i64 1, .int .i64 0, .bool false] 37)) sAbC = W2 at *
  case src =>
    have h := src_one (P := Tryz.prog) Tryz.underlying53 (W2.alloc (.cells #[.int .i64 2, .int .i64 5, .slice (some ⟨w.heap.size + 1, 0, none⟩) 3 ccap, .int .i64 1, .int .i64 0, .bool false] 74)) (.pointer (some ⟨w.heap.size + 1 + 1, 0, none⟩)) 71 rfl
    have hz : (W2.alloc (.cells #[.int .i64 2, .int .i64 5, .slice (some ⟨w.heap.size + 1, 0, none⟩) 3 ccap, .int .i64 1, .int .i64 0, .bool false] 74)).heap.size = w.heap.size + 1 + 1 + 1 := by simp [hz2]
    rw [hz] at h
    exact h
  case h63 => simp [maxLen]
  case hb => omega
  case base => simp [hz2]; omega
  intro v' w2 hown2 hg2
  change ((W2.alloc (.cells #[.int .i64 2, .int .i64 5, .slice (some ⟨w.heap.size + 1, 0, none⟩) 3 ccap, .int .i64 1, .int .i64 0, .bool false] 74)).alloc (.cells #[.pointer (some ⟨w.heap.size + 1 + 1, 0, none⟩)] 71)).grownBy w2 _ at hg2
  have hbA : Below W2.heap.size W2 ((W2.alloc (.cells #[.int .i64 2, .int .i64 5, .slice (some ⟨w.heap.size + 1, 0, none⟩) 3 ccap, .int .i64 1, .int .i64 0, .bool false] 74)).alloc (.cells #[.pointer (some ⟨w.heap.size + 1 + 1, 0, none⟩)] 71)) := ((Below.refl _ _).alloc (Nat.le_refl _) _).alloc (by simp) _
  have tk : TokAt ((W2.alloc (.cells #[.int .i64 2, .int .i64 5, .slice (some ⟨w.heap.size + 1, 0, none⟩) 3 ccap, .int .i64 1, .int .i64 0, .bool false] 74)).alloc (.cells #[.pointer (some ⟨w.heap.size + 1 + 1, 0, none⟩)] 71)) (w.heap.size + 1 + 1) #[.int .i64 2, .int .i64 5, .slice (some ⟨w.heap.size + 1, 0, none⟩) 3 ccap, .int .i64 1, .int .i64 0, .bool false] := by
    have h1 : TokAt (W2.alloc (.cells #[.int .i64 2, .int .i64 5, .slice (some ⟨w.heap.size + 1, 0, none⟩) 3 ccap, .int .i64 1, .int .i64 0, .bool false] 74)) (w.heap.size + 1 + 1) #[.int .i64 2, .int .i64 5, .slice (some ⟨w.heap.size + 1, 0, none⟩) 3 ccap, .int .i64 1, .int .i64 0, .bool false] := by
      unfold TokAt; rw [← hz2]; exact heap_alloc_new _ _
    exact h1.below ((Below.refl _ _).alloc (Nat.le_refl _) _)
  have hzA : ((W2.alloc (.cells #[.int .i64 2, .int .i64 5, .slice (some ⟨w.heap.size + 1, 0, none⟩) 3 ccap, .int .i64 1, .int .i64 0, .bool false] 74)).alloc (.cells #[.pointer (some ⟨w.heap.size + 1 + 1, 0, none⟩)] 71)).heap.size = w.heap.size + 1 + 1 + 1 + 1 := by simp [hz2]
  generalize ((W2.alloc (.cells #[.int .i64 2, .int .i64 5, .slice (some ⟨w.heap.size + 1, 0, none⟩) 3 ccap, .int .i64 1, .int .i64 0, .bool false] 74)).alloc (.cells #[.pointer (some ⟨w.heap.size + 1 + 1, 0, none⟩)] 71)) = W at *
  have hb2 : Below W.heap.size W w2 := (Below.refl _ _).grown hg2 (Nat.le_refl _) (fun k hk => by cases hk)
  have hbb := hbA.trans (hb2.mono hbA.size)
  have TK := Lib.hid (tk.below hb2)
  have HB := Lib.hid (HB2.out.trans (hbb.mono HB2.out.size))
  have BY := Lib.hid (And.intro (BB.out.1.below hbb) (fun i (hi : i < 3) => frozen_below hbb (by omega) (BB.out.2.1 i hi)))
  obtain ⟨_, ⟨_, hz⟩ | ⟨g, cap, cur, rfl, hg, hh, hn, hm, hsz, htk⟩⟩ := id hown2
  · cases hz
  have hgw : g < w2.heap.size := (Array.getElem?_eq_some_iff.1 hh).1
  have hne : g ≠ w.heap.size + 1 ∧ g ≠ w.heap.size + 1 + 1 := by
    constructor
    · rintro rfl
      have hc := hown2.cellAt 0 (by omega)
      have h2 := BY.out.1 0 (by decide)
      rw [hc] at h2
      simp at h2
    · rintro rfl
      have h2 := TK.out
      unfold TokAt at h2
      rw [hh] at h2
      simp at h2
  have hc := hown2.cellAt 0 (by omega)
  have HC := Lib.hid hc
  have CC := Lib.hid (And.intro BB.out.2.2.1 BB.out.2.2.2)
  clear hown2 hg2 hb2 hbA hbb hh hn hm hsz htk hc hg tk
  go_wp2
  simp only [rounds_succ]
  go_wp2
  go_ret
  exact ⟨g, cap, w.heap.size + 1 + 1, w.heap.size + 1, ccap, rfl, by simpa using HC.out, TK.out, BY.out.1, BY.out.2, CC.out.1, CC.out.2, by omega, by omega, by omega, hne.1, hne.2, HB.out⟩
end Go.Proofs.YtigpnpdpokgmkaaGreat
