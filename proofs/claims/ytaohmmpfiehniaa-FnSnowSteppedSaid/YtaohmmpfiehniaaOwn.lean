/- Code points in a block of their own that may be written: conversion, a word, append. -/
import Derived.Test.YtaohmmpfiehniaaAlive
set_option linter.unusedVariables false
set_option linter.unusedSimpArgs false
namespace Go.Proofs.Ytaohmmpfiehniaa
open Go Go.RowKit

/-- Code points lie in a block of their own, which may be written. -/
structure RunesOwn (w : World) (b cap : Nat) (rs : List Int) : Prop where
  blk : ∃ cur : Array Value, w.heap[b]? = some (.cells cur 21 (0, 0)) ∧ cur.size = cap ∧ cur.toList.take rs.length = rs.map (Value.int .i32)
  le : rs.length ≤ cap
  max : cap ≤ maxLen
section
variable {w w1 : World} {b cap : Nat} {rs : List Int}
theorem RunesOwn.at (h : RunesOwn w b cap rs) : RunesAt w b rs := by
  intro i hi
  obtain ⟨cur, h1, h2, h3⟩ := h.blk
  have e := congrArg (fun l => l[i]?) h3
  simp only [List.getElem?_take, hi, if_true, List.getElem?_map, List.getElem?_eq_getElem hi, Option.map_some, Array.getElem?_toList] at e
  unfold World.cell?
  rw [show w.heap[(⟨b, i, none⟩ : Addr).block]? = _ from h1]
  simpa [List.getD, List.getElem?_eq_getElem hi] using e
theorem RunesOwn.take (h : RunesOwn w b cap rs) (n : Nat) : RunesOwn w b cap (rs.take n) := by
  obtain ⟨cur, h1, h2, h3⟩ := h.blk
  refine ⟨⟨cur, h1, h2, ?_⟩, by have := h.le; rw [List.length_take]; omega, h.max⟩
  rw [List.length_take, List.map_take, ← h3, List.take_take]
theorem RunesOwn.below (h : RunesOwn w b cap rs) (hb : Below w.heap.size w w1) : RunesOwn w1 b cap rs := by
  obtain ⟨cur, h1, h2, h3⟩ := h.blk
  exact ⟨⟨cur, by rw [hb.block b (Array.getElem?_eq_some_iff.1 h1).1]; exact h1, h2, h3⟩, h.le, h.max⟩
theorem RunesOwn.drewN (h : RunesOwn w b cap rs) (n : Nat) : RunesOwn (w.drewN n) b cap rs := ⟨h.blk, h.le, h.max⟩
theorem RunesOwn.other (h : RunesOwn w b cap rs) {c j : Nat} (hn : b ≠ c) (y : Value) : RunesOwn (w.setCell ⟨c, j, none⟩ y) b cap rs := by
  obtain ⟨cur, h1, h2, h3⟩ := h.blk
  exact ⟨⟨cur, by rw [Below.heap_setCell _ _ _ _ (by simpa using hn)]; exact h1, h2, h3⟩, h.le, h.max⟩
theorem RunesOwn.lt (h : RunesOwn w b cap rs) : b < w.heap.size := by
  obtain ⟨cur, h1, h2, h3⟩ := h.blk
  exact (Array.getElem?_eq_some_iff.1 h1).1
theorem RunesOwn.row (h : RunesOwn w b cap rs) : w.ownsRow 0 21 1 (.slice (some ⟨b, 0, none⟩) rs.length cap) rs.length (rs.map (Value.int .i32)) := by
  obtain ⟨cur, h1, h2, h3⟩ := h.blk
  exact ⟨by simp, .inr ⟨b, cap, cur, rfl, Nat.zero_le _, h1, h.le, h.max, by omega, by rw [Nat.mul_one]; exact h3⟩⟩
theorem runesOwn_of (h : w.ownsRow 0 21 1 (.slice (some ⟨b, 0, none⟩) rs.length cap) rs.length (rs.map (Value.int .i32))) : RunesOwn w b cap rs := by
  rcases h.2 with ⟨h, _⟩ | ⟨g, c, cur, he, hb, hg, hnc, hcm, hcs, ht⟩
  · cases h
  · injection he with h1 h2 h3
    injection h1 with h1
    injection h1 with h1
    subst h1 h3
    exact ⟨⟨cur, hg, by omega, by rw [Nat.mul_one] at ht; exact ht⟩, hnc, hcm⟩
end

theorem conv_own (s : ByteArray) (rs : List Int) (h : Runes s rs) (w : World) :
    ∃ cap W, (convert 9 24 (.string s)).run Try.prog w = .ok (.slice (some ⟨w.heap.size, 0, none⟩) rs.length cap) W ∧ W.heap.size = w.heap.size + 1 ∧ Below w.heap.size w W ∧ RunesOwn W w.heap.size cap rs := by
  have hsz : (Conv.runesFrom s s.size 0 #[]).size = rs.length := by rw [h.1]; simp
  have hk := run_runes_of_string (P := Try.prog) w 9 24 21 s Try.underlying9 Try.underlying24 Try.underlying21 (by rw [hsz]; exact h.2)
  rw [hsz, h.1] at hk
  have hle := grownCap_ge w rs.length 0 21
  refine ⟨_, _, hk, by simp, (below_drewN (Below.refl _ _) 1).alloc (Nat.le_refl _) _, ⟨⟨_, heap_alloc_new w.drew _, ?_, ?_⟩, hle, grownCap_le_maxLen _ _ _ _ (by have := h.2; simp [maxLen]; omega)⟩⟩
  · simp; omega
  · simp [List.take_left']

theorem new_own (s : ByteArray) (rs : List Int) (h : Runes s rs) (w : World) :
    Calls Try.prog 28 #[.string s] w fun x w' => ∃ p b cap, x = .returned (.pointer (some ⟨p, 0, none⟩)) ∧ WordAt w' p (wordRow b rs.length cap rs.length rs.length rs.length) ∧ RunesOwn w' b cap rs ∧ p ≠ b ∧ w.heap.size ≤ p ∧ w.heap.size ≤ b ∧ Below w.heap.size w w' := by
  obtain ⟨cap, W, hcv, hz, hb, hr⟩ := conv_own s rs h w
  have HB := Lib.hid hb
  have HR := Lib.hid hr
  clear hb hr h
  go_enter Try.func28, Try.ntmps28
  go_wp2
  go_ret
  refine ⟨_, _, _, rfl, ?_, HR.out.below ((Below.refl _ _).alloc (Nat.le_refl _) _), by omega, by omega, by omega, HB.out.alloc (by omega) _⟩
  rw [← hz]; exact heap_alloc_new _ _

set_option maxHeartbeats 1000000 in
theorem word_own (s : ByteArray) (rs : List Int) (h : Runes s rs) (r1 r2 rv : Int) (w : World) :
    Calls Try.prog 31 #[snowV s r1 r2 rv] w fun x w' => ∃ p b cap, x = .returned (.pointer (some ⟨p, 0, none⟩)) ∧ WordAt w' p (wordRow b rs.length cap r1 r2 rv) ∧ RunesOwn w' b cap rs ∧ p ≠ b ∧ w.heap.size ≤ p ∧ w.heap.size ≤ b ∧ Below w.heap.size w w' := by
  have hb0 : Below w.heap.size w (w.alloc (.cells #[.string s, .int .i64 r1, .int .i64 r2, .int .i64 rv] 27)) := (Below.refl _ _).alloc (Nat.le_refl _) _
  have hr0 := RowAt.new w #[.string s, .int .i64 r1, .int .i64 r2, .int .i64 rv] 27
  have hz0 : (w.alloc (.cells #[.string s, .int .i64 r1, .int .i64 r2, .int .i64 rv] 27)).heap.size = w.heap.size + 1 := by simp
  unfold snowV
  go_enter Try.func31, Try.ntmps31
  go_wp2_with fail
  generalize w.alloc (.cells #[.string s, .int .i64 r1, .int .i64 r2, .int .i64 rv] 27) = W0 at *
  refine (new_own s rs h _).mono ?_
  rintro x w1 ⟨p, b, cap, rfl, hw, hr, hpb, hp, hb', hb1⟩
  have R := hr0.below hb1
  have e1 : w1.cell? ⟨w.heap.size, 1, none⟩ = some (.int .i64 r1) := R 1 _ rfl
  have e2 : w1.cell? ⟨w.heap.size, 2, none⟩ = some (.int .i64 r2) := R 2 _ rfl
  have e3 : w1.cell? ⟨w.heap.size, 3, none⟩ = some (.int .i64 rv) := R 3 _ rfl
  have k1 : w1.cell? ⟨p, 1, none⟩ = some (.int .i64 rs.length) := hw.row 1 _ rfl
  have k2 : w1.cell? ⟨p, 2, none⟩ = some (.int .i64 rs.length) := hw.row 2 _ rfl
  have k3 : w1.cell? ⟨p, 3, none⟩ = some (.int .i64 rs.length) := hw.row 3 _ rfl
  have fz : ∀ i, w1.frozen? ⟨p, i, none⟩ = false := hw.free
  have hne : p ≠ w.heap.size := by omega
  have HW := Lib.hid hw
  have HR := Lib.hid hr
  have HB := Lib.hid (hb0.trans (hb1.mono hb0.size))
  clear hw hr hb0 hb1 R hr0 h
  obtain ⟨A, hA⟩ : ∃ A, w.heap.size = A := ⟨_, rfl⟩
  rw [hA] at e1 e2 e3 hne hz0 ⊢
  go_wp2_with fail
  go_region_held3 (fun w' => w'.cell? ⟨A, 1, none⟩ = some (.int .i64 r1) ∧ w'.cell? ⟨A, 2, none⟩ = some (.int .i64 r2) ∧ w'.cell? ⟨A, 3, none⟩ = some (.int .i64 rv)) (go_keep) (first | fail)
  have hw4 : WordAt ((((w1.setCell ⟨p, 1, none⟩ (.int .i64 r1)).setCell ⟨p, 2, none⟩ (.int .i64 r2)).setCell ⟨p, 3, none⟩ (.int .i64 rv)).drew) p (wordRow b rs.length cap r1 r2 rv) := by
    have := ((HW.out.set 1 (.int .i64 r1)).set 2 (.int .i64 r2)).set 3 (.int .i64 rv)
    have e : ((((wordRow b rs.length cap rs.length rs.length rs.length).setIfInBounds 1 (.int .i64 r1)).setIfInBounds 2 (.int .i64 r2)).setIfInBounds 3 (.int .i64 rv)) = wordRow b rs.length cap r1 r2 rv := rfl
    rw [e] at this
    exact this
  have hr4 : RunesOwn ((((w1.setCell ⟨p, 1, none⟩ (.int .i64 r1)).setCell ⟨p, 2, none⟩ (.int .i64 r2)).setCell ⟨p, 3, none⟩ (.int .i64 rv)).drew) b cap rs :=
    (((HR.out.other (Ne.symm hpb) _).other (Ne.symm hpb) _).other (Ne.symm hpb) _).drewN 1
  have hb4 : Below w.heap.size w ((((w1.setCell ⟨p, 1, none⟩ (.int .i64 r1)).setCell ⟨p, 2, none⟩ (.int .i64 r2)).setCell ⟨p, 3, none⟩ (.int .i64 rv)).drew) :=
    below_drewN (((HB.out.setCell (p := ⟨p, 1, none⟩) (by simp; omega) _).setCell (p := ⟨p, 2, none⟩) (by simp; omega) _).setCell (p := ⟨p, 3, none⟩) (by simp; omega) _) 1
  generalize ((((w1.setCell ⟨p, 1, none⟩ (.int .i64 r1)).setCell ⟨p, 2, none⟩ (.int .i64 r2)).setCell ⟨p, 3, none⟩ (.int .i64 rv)).drew) = W4 at *
  have HW4 := Lib.hid hw4
  have HR4 := Lib.hid hr4
  have HB4 := Lib.hid hb4
  clear hw4 hr4 hb4 e1 e2 e3 k1 k2 k3 fz
  go_wp2
  go_ret
  exact ⟨p, b, cap, rfl, HW4.out, HR4.out, hpb, by omega, by omega, HB4.out⟩

section
variable {P : Program} (w : World)
/-- append onto an owned row that is there: what comes is there too: the same row, or a new one. -/
theorem run_append_some (base : Nat) (t tx ty e : TypeId) (i : TypeInfo) (z : Value) (size bytes : Nat) (ht : P.underlying t = some (.slice e)) (hi : P.info? e = some i) (hz : i.zero = some z)
    (hsize : i.size = size) (hby : i.bytes = bytes) (hzs : z.cells.size = size) (hsz : 0 < size)
    (g cap n : Nat) (xs : List Value) (hown : w.ownsRow base e size (.slice (some ⟨g, 0, none⟩) n cap) n xs)
    (x : Value) (m : Nat) (news : List Value) (hs : Src P size tx x m news w)
    (h63 : n + m ≤ maxLen) (hbytes : (n + m) * bytes ≤ 140737488355328) (hbase : base ≤ w.heap.size) :
    ∃ g' cap' w', (Builtin.append_ #[t, tx] ty #[.slice (some ⟨g, 0, none⟩) n cap, x]).run P w = .ok (.slice (some ⟨g', 0, none⟩) (n + m) cap') w' ∧ w'.ownsRow base e size (.slice (some ⟨g', 0, none⟩) (n + m) cap') (n + m) (xs ++ news) ∧ w.grownBy w' (some g) ∧ (g' = g ∨ g' = w.heap.size) := by
  subst hsize
  subst hby
  have hl : news.length = m * i.size := hs.newsLen
  have hlen : (xs ++ news).length = (n + m) * i.size := by rw [List.length_append, hown.1, hl, Nat.add_mul]
  have grown : ∀ (old : Nat), old < n + m → ∀ (row : Option Nat),
      (w.drew.alloc (.cells ((xs ++ news).toArray ++ Builtin.zeroCells z.cells (grownCap w (n + m) old e - (n + m))) e)).ownsRow base e i.size
        (.slice (some ⟨w.heap.size, 0, none⟩) (n + m) (grownCap w (n + m) old e)) (n + m) (xs ++ news) ∧
      w.grownBy (w.drew.alloc (.cells ((xs ++ news).toArray ++ Builtin.zeroCells z.cells (grownCap w (n + m) old e - (n + m))) e)) row := by
    intro old ho row
    have hge := grownCap_ge w (n + m) old e
    have hcm : grownCap w (n + m) old e ≤ maxLen := grownCap_le_maxLen w (n + m) old e h63
    refine ⟨⟨hlen, .inr ⟨w.heap.size, _, _, rfl, hbase, heap_alloc_new w.drew _, hge, hcm, ?_, ?_⟩⟩, ⟨rfl, rfl, rfl, by simp, fun k hk _ => _root_.Go.heap_alloc_old w.drew _ hk⟩⟩
    · simp only [Array.size_append, List.size_toArray, size_zeroCells, hzs, hlen, ← Nat.add_mul]
      congr 1
      omega
    · simp only [Array.toList_append]
      rw [← hlen]
      exact List.take_left
  rcases hown.2 with ⟨h, _⟩ | ⟨g2, cap2, cur, he, hbg, hg, hnc, hcm, hcs, htake⟩
  · cases h
  · injection he with h1 h2 h3
    injection h1 with h1
    injection h1 with h1
    subst h1 h3
    by_cases hroom : n + m ≤ cap
    · have hfit : n * i.size + news.length ≤ cur.size := by rw [hl, hcs, ← Nat.add_mul]; exact Nat.mul_le_mul_right _ hroom
      have hst := run_storeCells_at P g (n * i.size) e news 0 cur w hg (by simpa using hfit) hs.one
      simp only [Nat.add_zero] at hst
      have hr : (Builtin.append_ #[t, tx] ty #[.slice (some ⟨g, 0, none⟩) n cap, x]).run P w = .ok (.slice (some ⟨g, 0, none⟩) (n + m) cap) (w.setRow g (cur.toList.take (n * i.size) ++ news ++ cur.toList.drop (n * i.size + news.length)).toArray) := by
        rcases hs.kind with ⟨e', hk⟩ | hk <;> simp [Builtin.append_, run_underlying ht, run_underlying hk, sizeOf, typeInfo, hi, hs.len, hroom, hs.cells, Addr.add_lit, hst]
      refine ⟨_, _, _, hr, ⟨hlen, .inr ⟨g, cap, _, rfl, hbg, setRow_heap w g cur _ e _ hg, hroom, hcm, ?_, ?_⟩⟩, ⟨rfl, rfl, rfl, by simp, fun k _ hk => setRow_other w g k _ (fun e => hk (by simp [e]))⟩, Or.inl rfl⟩
      · simp only [List.size_toArray, List.length_append, List.length_take, List.length_drop, Array.length_toList]
        omega
      · rw [htake, ← hlen]
        exact List.take_left
    · have holds : ∀ j u, xs[j]? = some u → w.drew.cell? ((⟨g, 0, none⟩ : Addr).add j) = some u := hown.cells (g := g) rfl
      have hr := run_append_grow_src (P := P) w t tx ty e i z ht hi hz (some ⟨g, 0, none⟩) n cap xs (run_firstCells_some w.drew i.size n _ n cap xs hown.1 holds) x m news hs (by omega) (by simp only [maxLen] at h63; omega) (growslice_fits (by simp only [maxLen] at h63; omega) hbytes)
      have hgr := grown cap (by omega) (some g)
      exact ⟨_, _, _, hr, hgr.1, hgr.2, Or.inr rfl⟩

theorem wpList_append_some {ops : Array Oper} {rest : List Oper} {o : Oper} {a : Act} {Q : Exit → Act → World → Prop} (hgd : o.guard = none) (s x : Operand) (t tx : TypeId)
    (ho : o.op = .call { callee := .builtin .append, args := #[s, x], argTypes := #[t, tx] })
    (base : Nat) (e : TypeId) (z : Value) (size bytes : Nat) (ht : P.underlying t = some (.slice e)) (hinfo : (P.info? e).map (fun i => (i.zero, i.size, i.bytes)) = some (some z, size, bytes))
    (hzs : z.cells.size = size) (hsz : 0 < size)
    (g cap n : Nat) (xs : List Value) (hv : a.eval s = .slice (some ⟨g, 0, none⟩) n cap) (hown : w.ownsRow base e size (.slice (some ⟨g, 0, none⟩) n cap) n xs)
    (xv : Value) (m : Nat) (news : List Value) (hx : a.eval x = xv) (hs : Src P size tx xv m news w)
    (h63 : n + m ≤ maxLen) (hbytes : (n + m) * bytes ≤ 140737488355328) (hbase : base ≤ w.heap.size)
    (hK : ∀ g' cap' w', w'.ownsRow base e size (.slice (some ⟨g', 0, none⟩) (n + m) cap') (n + m) (xs ++ news) → w.grownBy w' (some g) → (g' = g ∨ g' = w.heap.size) → wpList P ops Q rest (a.put o.dst (.slice (some ⟨g', 0, none⟩) (n + m) cap')) w') : wpList P ops Q (o :: rest) a w := by
  obtain ⟨i, hi, hzz⟩ := Option.map_eq_some_iff.1 hinfo
  simp only [Prod.mk.injEq] at hzz
  obtain ⟨hz, hsz', hb⟩ := hzz
  refine wpList_plain hgd fun K hK' => ?_
  obtain ⟨g', cap', w', hrun, r1, r2, r3⟩ := run_append_some (P := P) w base t tx o.type e i z size bytes ht hi hz hsz' hb hzs hsz g cap n xs hown xv m news hs h63 hbytes hbase
  unfold Oper.wp
  simp [execOp, ho, resolve, invoke, builtin, hv, hx, hrun, Result.andThen]
  exact hK' _ _ (hK g' cap' w' r1 r2 r3)
end

/-- Code points as a source of an append. -/
theorem src_runes {P : Program} {w : World} {tx e' : TypeId} (hk : P.underlying tx = some (.slice e')) (b cap : Nat) (l : List Int) (hc : RunesAt w b l) :
    Src P 1 tx (.slice (some ⟨b, 0, none⟩) l.length cap) l.length (l.map (Value.int .i32)) w := by
  refine Src.ofSlice w hk ⟨b, 0, none⟩ l.length cap (l.map (Value.int .i32)) (by simp) (fun j u hu => ?_) (fun u hu => by obtain ⟨_, _, rfl⟩ := List.mem_map.1 hu; rfl)
  have hj : j < l.length := by have := (List.getElem?_eq_some_iff.1 hu).1; simpa using this
  rw [add_plain, hc j hj]
  simp only [List.getElem?_map, List.getElem?_eq_getElem hj, Option.map_some, Option.some.injEq] at hu
  subst hu
  simp [List.getD, List.getElem?_eq_getElem hj]
theorem info_rune : (Try.prog.info? 21).map (fun i => (i.zero, i.size, i.bytes)) = some (some (.int .i32 0), 1, 4) := by kernel_rfl
end Go.Proofs.Ytaohmmpfiehniaa
