/- Pairs of numbers behind a slice; the contracts of impl.locations over them, and of the fragmenter's New. -/
import Derived.Test.YtbfelpgojgaeoaaDoorLocs
import Derived.Deep.LoopGhost
import Derived.Deep.AppendLies
set_option linter.unusedVariables false
set_option linter.unusedSimpArgs false
namespace Go.Proofs.YtbfelpgojgaeoaaDoor
open Go.RowKit

/-- Pairs of numbers behind a slice's address. -/
def PairsAt (w : World) (b o : Nat) (xs : List (Int × Int)) : Prop := ∀ i (h : i < xs.length), w.cell? ⟨b, o + i * 2, none⟩ = some (.int .i64 xs[i].1) ∧ w.cell? ⟨b, o + i * 2 + 1, none⟩ = some (.int .i64 xs[i].2)
theorem PairsAt.below {w w1 : World} {b o : Nat} {xs : List (Int × Int)} (h : PairsAt w b o xs) (hb : Below w.heap.size w w1) : PairsAt w1 b o xs :=
  fun i hi => ⟨belowRow hb (h i hi).1, belowRow hb (h i hi).2⟩
def InI64 (x : Int) : Prop := -9223372036854775808 ≤ x ∧ x ≤ 9223372036854775807
def AllI64 (xs : List (Int × Int)) : Prop := ∀ x ∈ xs, InI64 x.1 ∧ InI64 x.2

theorem ownKept {w w' : World} {B e size n : Nat} {v : Value} {xs : List Value} (h : w.ownsRow B e size v n xs) (hb : Below w.heap.size w w') : w'.ownsRow B e size v n xs := by
  refine ⟨h.1, h.2.imp_right ?_⟩
  rintro ⟨g, cap, cur, hv, hB, hg, hr⟩
  exact ⟨g, cap, cur, hv, hB, by rw [hb.block g (by rcases Nat.lt_or_ge g w.heap.size with hl | hl; exact hl; rw [Array.getElem?_eq_none hl] at hg; cases hg)]; exact hg, hr⟩

def ptrTo (x : Nat × Array Value) : Value := .pointer (some ⟨x.1, 0, none⟩)
/-- Blocks made so far, and pointers to them in a row that grows. -/
structure PW (w0 : World) (T : TypeId) (fs : List (Nat × Array Value)) (v : Value) (w : World) : Prop where
  bel : Below w0.heap.size w0 w
  own : w.ownsRow w0.heap.size T 1 v fs.length (fs.map ptrTo)
  row : ∀ x ∈ fs, RowAt w x.1 x.2 ∧ v.ownBlock ≠ some x.1 ∧ x.1 < w.heap.size
section
variable {w0 w w1 : World} {T : TypeId} {fs : List (Nat × Array Value)} {v : Value}
theorem PW.step (h : PW w0 T fs v w) (hb : Below w.heap.size w w1) : PW w0 T fs v w1 :=
  ⟨h.bel.trans (hb.mono h.bel.size), ownKept h.own hb, fun x hx => ⟨(h.row x hx).1.below hb, (h.row x hx).2.1, Nat.lt_of_lt_of_le (h.row x hx).2.2 hb.size⟩⟩
theorem PW.own_lt (h : PW w0 T fs v w) {g : Nat} (hg : v.ownBlock = some g) : g < w.heap.size ∧ w0.heap.size ≤ g := by
  rcases h.own.2 with ⟨hv, _⟩ | ⟨g', cap', cur, hv, hB, hh, _⟩
  · rw [hv] at hg; simp [Value.ownBlock] at hg
  · rw [hv] at hg
    have : g' = g := by simpa [Value.ownBlock] using hg
    subst this
    refine ⟨?_, hB⟩
    rcases Nat.lt_or_ge g' w.heap.size with hl | hl
    · exact hl
    · rw [Array.getElem?_eq_none hl] at hh; cases hh
/-- A new block, and the block of the element to be appended. -/
abbrev two (w : World) (cs : Array Value) (t1 t2 : TypeId) : World := (w.alloc (.cells cs t1)).alloc (.cells #[.pointer (some ⟨w.heap.size, 0, none⟩)] t2)
theorem PW.facts (h : PW w0 T fs v w) (cs : Array Value) (t1 t2 : TypeId) :
    (two w cs t1 t2).ownsRow w0.heap.size T 1 v fs.length (fs.map ptrTo) ∧
      (∀ j u, [Value.pointer (some ⟨w.heap.size, 0, none⟩)][j]? = some u → (two w cs t1 t2).cell? ((⟨w.heap.size + 1, 0, none⟩ : Addr).add j) = some u) ∧
      (∀ u ∈ [Value.pointer (some ⟨w.heap.size, 0, none⟩)], u.oneCell' = true) ∧ w0.heap.size ≤ (two w cs t1 t2).heap.size := by
  have hz : (w.alloc (.cells cs t1)).heap.size = w.heap.size + 1 := by simp
  refine ⟨(h.own.alloc _).alloc _, ?_, ?_, ?_⟩
  · have := World.news_of_block (heap_alloc_new (w.alloc (.cells cs t1)) (.cells #[.pointer (some ⟨w.heap.size, 0, none⟩)] t2))
    rw [hz] at this
    exact this
  · intro u hu; rw [List.mem_singleton.1 hu]; rfl
  · have := h.bel.size; simp; omega
theorem PW.push (h : PW w0 T fs v w) (cs : Array Value) {g gc : Nat} {w2 : World} {t1 t2 : TypeId}
    (hown : w2.ownsRow w0.heap.size T 1 (.slice (some ⟨g, 0, none⟩) (fs.length + 1) gc) (fs.length + 1) (fs.map ptrTo ++ [.pointer (some ⟨w.heap.size, 0, none⟩)]))
    (hgrow : (two w cs t1 t2).grownBy w2 v.ownBlock)
    (hat : v.ownBlock = some g ∨ g = w.heap.size + 2) : PW w0 T (fs ++ [(w.heap.size, cs)]) (.slice (some ⟨g, 0, none⟩) (fs.length + 1) gc) w2 := by
  have hb2 : Below w.heap.size w (two w cs t1 t2) := ((Below.refl _ _).alloc (Nat.le_refl _) _).alloc (by simp) _
  have hsz : (two w cs t1 t2).heap.size = w.heap.size + 2 := by simp
  have hnew : RowAt (two w cs t1 t2) w.heap.size cs := (RowAt.new w _ _).below ((Below.refl _ _).alloc (Nat.le_refl _) _)
  have hf : ∀ p (cs' : Array Value), p < w.heap.size + 2 → v.ownBlock ≠ some p → RowAt (two w cs t1 t2) p cs' → RowAt w2 p cs' := by
    intro p cs' hp hv hr i z hz
    rw [hgrow.cell_far ⟨p, i, none⟩ (by rw [hsz]; exact hp) (Ne.symm hv)]
    exact hr i z hz
  have hB : Below w0.heap.size w0 w2 := by
    refine ((h.bel.trans (hb2.mono h.bel.size))).grown hgrow (by have := h.bel.size; have := hb2.size; omega) ?_
    intro k hk
    exact (h.own_lt hk).2
  have hle : w.heap.size + 2 ≤ w2.heap.size := by rw [← hsz]; exact hgrow.size
  refine ⟨hB, ?_, ?_⟩
  · rw [List.length_append, List.map_append]; exact hown
  · intro z hz
    rcases List.mem_append.1 hz with hz | hz
    · obtain ⟨h1, h2, hlt⟩ := h.row z hz
      refine ⟨hf _ _ (by omega) h2 (h1.below hb2), ?_, by omega⟩
      rcases hat with hat | hat
      · rw [hat] at h2; exact h2
      · intro he; have : g = z.1 := by simpa [Value.ownBlock] using he
        omega
    · have hz : z = (w.heap.size, cs) := by simpa using hz
      subst hz
      have hvn : v.ownBlock ≠ some w.heap.size := fun he => by have := (h.own_lt he).1; omega
      refine ⟨hf _ _ (by simp) hvn hnew, ?_, by show w.heap.size < w2.heap.size; omega⟩
      intro he
      have : g = w.heap.size := by simpa [Value.ownBlock] using he
      rcases hat with hat | hat
      · rw [hat] at hvn; exact hvn (by rw [this])
      · omega
theorem PW.cell (h : PW w0 T fs v w) {g gc : Nat} (hv : v = .slice (some ⟨g, 0, none⟩) fs.length gc) {i : Nat} (hi : i < fs.length) : w.cell? ⟨g, i, none⟩ = some (ptrTo fs[i]) := by
  have hown := h.own
  rw [hv] at hown
  have hc := hown.cellAt i (by omega)
  rw [hc, List.getElem?_map, List.getElem?_eq_getElem hi]; rfl
theorem PW.shape (h : PW w0 T fs v w) : (fs.length = 0 ∧ v = .slice none 0 0) ∨ ∃ g gc, v = .slice (some ⟨g, 0, none⟩) fs.length gc := by
  obtain ⟨_, ⟨hz, hl⟩ | ⟨g', cap', cur, he, _⟩⟩ := h.own
  · exact .inl ⟨hl, hz⟩
  · exact .inr ⟨g', cap', he⟩
end

theorem info_locs : ∃ i, Tryd.prog.info? 61 = some i ∧ i.zero = some (.pointer none) ∧ i.size = 1 ∧ i.bytes = 8 := by
  have h := info_loc
  cases hi : Tryd.prog.info? 61 with
  | none => rw [hi] at h; cases h
  | some i =>
    rw [hi] at h
    have h := Option.some.inj h
    injection h with h1 h2
    injection h2 with h2 h3
    exact ⟨i, rfl, h1, h2, h3⟩

theorem new_fragmenter (size : Int) (w : World) :
    Calls Tryd.prog 13 #[.int .i64 size] w fun e w' => ∃ p, e = .returned (.pointer (some ⟨p, 0, none⟩)) ∧ w'.cell? ⟨p, 0, none⟩ = some (.int .i64 size) ∧ Below w.heap.size w w' := by
  go_enter Tryd.func13, Tryd.ntmps13
  go_wp2
  go_ret
  exact ⟨_, rfl, RowAt.new w #[.int .i64 size] _ 0 _ rfl, (Below.refl _ _).alloc (Nat.le_refl _) _⟩

def locCells (x : Int × Int) : Array Value := locRow x.1 x.2
set_option maxRecDepth 100000 in
set_option maxHeartbeats 4000000 in
theorem locations (b o cap n : Nat) (ad : Option Addr) (xs : List (Int × Int)) (hn : xs.length = n) (had : n = 0 ∨ ad = some ⟨b, o, none⟩) (hn20 : n ≤ 1000) (hcap : n ≤ cap) (hle : ∀ i (h : i < xs.length), xs[i].1 ≤ xs[i].2) (hi64 : AllI64 xs) (w : World) (hp : PairsAt w b o xs) :
    Calls Tryd.prog 15 #[.slice ad n cap] w fun e w' => ∃ v fs, e = .returned v ∧ PW w 61 fs v w' ∧ fs.length = n ∧ (n = 0 → v = .slice none 0 0) ∧ ∀ (i : Nat) (x : Nat × Array Value), fs[i]? = some x → ∃ y, xs[i]? = some y ∧ x.2 = locCells y := by
  have HLE := Lib.hid hle
  have HP := Lib.hid hp
  have HI := Lib.hid hi64
  clear hle hp hi64
  go_enter Tryd.func15, Tryd.ntmps15
  go_wp2
  go_loopg [3, 5, 8] n (fun g s3 s5 s8 wx => ∃ (i : Nat) (fs : List (Nat × Array Value)), i ≤ n ∧ g = n - i ∧ s8 = .int .i64 i ∧ fs.length = i ∧ PW w 61 fs s3 wx ∧ Hid (i = 0 → s3 = .slice none 0 0) ∧ Hid (∀ (j : Nat) (x : Nat × Array Value), fs[j]? = some x → ∃ y, xs[j]? = some y ∧ x.2 = locCells y))
  case atStart => exact ⟨0, [], by omega, by omega, rfl, rfl, ⟨Below.refl _ _, World.ownsRow_nil _ _ _ _, by simp⟩, Lib.hid (fun _ => rfl), Lib.hid (by simp)⟩
  case round =>
    obtain ⟨i, fs, hi, hg, rfl, hfl, HR, HN, HG⟩ := hrel
    by_cases him : i < n
    · have hix : i < xs.length := by omega
      have had' : ad = some ⟨b, o, none⟩ := by rcases had with h | h; omega; exact h
      subst had'
      obtain ⟨q1, q2⟩ := (HP.out.below HR.bel) i hix
      have hlt := HLE.out i hix
      obtain ⟨hA, hB⟩ := HI.out _ (List.getElem_mem hix)
      have HX := Lib.hid (List.getElem?_eq_getElem hix)
      obtain ⟨y, hy⟩ : ∃ y, xs[i] = y := ⟨_, rfl⟩
      rw [hy] at q1 q2 hlt hA hB HX
      obtain ⟨A, B⟩ := y
      have hR := Lib.hid HR
      clear HR hy
      simp only [] at q1 q2 hlt hA hB
      have hb1 : Below wr.heap.size wr (wr.alloc (.cells #[.int .i64 A, .int .i64 B] 26)) := (Below.refl _ _).alloc (Nat.le_refl _) _
      have hz1 : (wr.alloc (.cells #[.int .i64 A, .int .i64 B] 26)).heap.size = wr.heap.size + 1 := by simp
      have hR1 := hR.out.step hb1
      have hPF := hR1.facts (locRow A B) 64 61
      unfold two at hPF
      rw [hz1, hfl] at hPF
      have PF := Lib.hid hPF
      have R1 := Lib.hid hR1
      have Z1 := Lib.hid hz1
      have hdl : decide (B < A) = false := by simpa using hlt
      obtain ⟨ti, hti1, hti2, hti3, hti4⟩ := info_locs
      have I1 := Lib.hid hti1
      have I2 := Lib.hid hti2
      have I3 := Lib.hid hti3
      have I4 := Lib.hid hti4
      clear hti1 hti2 hti3 hti4 hb1 hR1 hPF hz1
      go_wp2_with (at_builtin; refine wpList_append_lies _ rfl _ _ _ rfl w.heap.size 61 ti (.pointer none) 1 8 Tryd.underlying44 I1.out I2.out I3.out I4.out rfl (by omega) u3 i (fs.map ptrTo) rfl PF.out.1 ⟨wr.heap.size + 1 + 1, 0, none⟩ 1 1 [.pointer (some ⟨wr.heap.size + 1, 0, none⟩)] rfl rfl PF.out.2.1 PF.out.2.2.1 (by omega) (by simp [maxLen]; omega) (by omega) PF.out.2.2.2 (wr.heap.size + 1 + 1 + 1) (by simp) ?_)
      intro g gc w3 hown hgrow hat hlt
      have hpush := R1.out.push (t1 := 64) (t2 := 61) (locRow A B) (g := g) (gc := gc) (w2 := w3) (by rw [hfl, Z1.out]; exact hown) (by unfold two; rw [Z1.out]; exact hgrow) (by rw [Z1.out]; exact hat)
      rw [hfl] at hpush
      have HPU := Lib.hid hpush
      clear hown hgrow hat hlt hpush
      go_wp2_with fail
      go_roundg (n - (i + 1))
      case measure => omega
      case rel =>
        refine ⟨i + 1, fs ++ [(_, locRow A B)], by omega, rfl, rfl, by simp [hfl], HPU.out, Lib.hid (fun h => by omega), Lib.hid ?_⟩
        intro j x hx
        by_cases hj : j < fs.length
        · rw [List.getElem?_append_left hj] at hx; exact HG.out j x hx
        · rw [List.getElem?_append_right (by omega)] at hx
          have h0 : j - fs.length = 0 := by
            by_cases h0 : j - fs.length = 0
            · exact h0
            · rw [List.getElem?_eq_none (by simp; omega)] at hx; cases hx
          rw [h0] at hx
          have hx' := Option.some.inj hx
          have hji : j = i := by omega
          rw [hji]
          exact ⟨_, HX.out, by rw [← hx']; rfl⟩
    · go_wp2_with fail
      go_ret
      exact ⟨_, fs, rfl, HR, by omega, fun h => HN.out (by omega), HG.out⟩
end Go.Proofs.YtbfelpgojgaeoaaDoor
