/- Laws of memory that this session's proofs share: append of whatever source onto an owned row, a made slice under a name, bytes that a slice holds. No condition of their own. -/
import Derived.WalkKit
import Derived.Deep.AppendSrc
import Derived.Deep.OwnRows
import Derived.Laws.OwnMore
import Derived.Lib.Hide
import Derived.Deep.Draws
import Derived.RegionTactic
import Derived.WalkSpells
set_option linter.unusedVariables false
set_option linter.unusedSimpArgs false
namespace Go.Proofs.YtbfelpgojgaeoaaDoor
open Go Go.RowKit

section
variable {P : Program} (w : World)

/-- append onto an owned row, of whatever source. -/
theorem run_append_own_src (base : Nat) (t tx ty e : TypeId) (i : TypeInfo) (z : Value) (size bytes : Nat) (ht : P.underlying t = some (.slice e)) (hi : P.info? e = some i) (hz : i.zero = some z)
    (hsize : i.size = size) (hby : i.bytes = bytes) (hzs : z.cells.size = size) (hsz : 0 < size)
    (v : Value) (n : Nat) (xs : List Value) (hown : w.ownsRow base e size v n xs)
    (x : Value) (m : Nat) (news : List Value) (hs : Src P size tx x m news w)
    (h63 : n + m ≤ maxLen) (hbytes : (n + m) * bytes ≤ 140737488355328) (hbase : base ≤ w.heap.size) :
    ∃ v' w', (Builtin.append_ #[t, tx] ty #[v, x]).run P w = .ok v' w' ∧ w'.ownsRow base e size v' (n + m) (xs ++ news) ∧ w.grownBy w' v.ownBlock := by
  subst hsize
  subst hby
  have hl : news.length = m * i.size := hs.newsLen
  have hsmall : n + m ≤ 9223372036854775807 := by simp only [maxLen] at h63; omega
  have hlen : (xs ++ news).length = (n + m) * i.size := by rw [List.length_append, hown.1, hl, Nat.add_mul]
  have grown : ∀ (old : Nat), old < n + m → ∀ (row : Option Nat),
      (w.drew.alloc (.cells ((xs ++ news).toArray ++ Builtin.zeroCells z.cells (grownCap w (n + m) old e - (n + m))) e)).ownsRow base e i.size
        (.slice (some ⟨w.heap.size, 0, none⟩) (n + m) (grownCap w (n + m) old e)) (n + m) (xs ++ news) ∧
      w.grownBy (w.drew.alloc (.cells ((xs ++ news).toArray ++ Builtin.zeroCells z.cells (grownCap w (n + m) old e - (n + m))) e)) row := by
    intro old ho row
    have hge := grownCap_ge w (n + m) old e
    have hcm : grownCap w (n + m) old e ≤ maxLen := grownCap_le_maxLen w (n + m) old e h63
    refine ⟨⟨hlen, .inr ⟨w.heap.size, _, _, rfl, hbase, heap_alloc_new w.drew _, hge, hcm, ?_, ?_⟩⟩, ⟨rfl, rfl, rfl, by simp, fun k hk _ => _root_.Go.heap_alloc_old w.drew _ hk⟩⟩
    · simp only [Array.size_append, List.size_toArray, size_zeroCells, hzs, hlen, ← Nat.add_mul]
      congr 1
      omega
    · simp only [Array.toList_append]
      rw [← hlen]
      exact List.take_left
  rcases hown.2 with ⟨rfl, rfl⟩ | ⟨g, cap, cur, rfl, hbg, hg, hnc, hcm, hcs, htake⟩
  · have hx : xs = [] := List.eq_nil_of_length_eq_zero (by simpa using hown.1)
    subst hx
    by_cases hm : m = 0
    · subst hm
      have hn : news = [] := List.eq_nil_of_length_eq_zero (by simpa using hl)
      subst hn
      refine ⟨.slice none 0 0, w, ?_, World.ownsRow_nil w base e i.size, ⟨rfl, rfl, rfl, Nat.le_refl _, fun _ _ _ => rfl⟩⟩
      rcases hs.kind with ⟨e', hk⟩ | hk <;> simp [Builtin.append_, run_underlying ht, run_underlying hk, sizeOf, typeInfo, hi, hs.len, hs.cells]
    · have hr := run_append_grow_src (P := P) w t tx ty e i z ht hi hz none 0 0 [] (run_firstCells_none w.drew i.size 0 0 0) x m news hs (by omega) (by omega) (growslice_fits (by omega) (by simpa using hbytes))
      have hgr := grown 0 (by omega) (Value.ownBlock (.slice none 0 0))
      simp only [Nat.zero_add, List.nil_append] at hgr hr ⊢
      exact ⟨_, _, hr, hgr.1, hgr.2⟩
  · by_cases hroom : n + m ≤ cap
    · have hfit : n * i.size + news.length ≤ cur.size := by rw [hl, hcs, ← Nat.add_mul]; exact Nat.mul_le_mul_right _ hroom
      have hst := run_storeCells_at P g (n * i.size) e news 0 cur w hg (by simpa using hfit) hs.one
      simp only [Nat.add_zero] at hst
      have hr : (Builtin.append_ #[t, tx] ty #[.slice (some ⟨g, 0, none⟩) n cap, x]).run P w = .ok (.slice (some ⟨g, 0, none⟩) (n + m) cap) (w.setRow g (cur.toList.take (n * i.size) ++ news ++ cur.toList.drop (n * i.size + news.length)).toArray) := by
        rcases hs.kind with ⟨e', hk⟩ | hk <;> simp [Builtin.append_, run_underlying ht, run_underlying hk, sizeOf, typeInfo, hi, hs.len, hroom, hs.cells, Addr.add_lit, hst]
      refine ⟨_, _, hr, ⟨hlen, .inr ⟨g, cap, _, rfl, hbg, setRow_heap w g cur _ e _ hg, hroom, hcm, ?_, ?_⟩⟩, ⟨rfl, rfl, rfl, by simp, fun k _ hk => setRow_other w g k _ (fun e => hk (by simp [Value.ownBlock, e]))⟩⟩
      · simp only [List.size_toArray, List.length_append, List.length_take, List.length_drop, Array.length_toList]
        omega
      · rw [htake, ← hlen]
        exact List.take_left
    · have holds : ∀ j u, xs[j]? = some u → w.drew.cell? ((⟨g, 0, none⟩ : Addr).add j) = some u := hown.cells (g := g) rfl
      have hr := run_append_grow_src (P := P) w t tx ty e i z ht hi hz (some ⟨g, 0, none⟩) n cap xs (run_firstCells_some w.drew i.size n _ n cap xs hown.1 holds) x m news hs (by omega) (by omega) (growslice_fits (by omega) hbytes)
      have hgr := grown cap (by omega) (Value.ownBlock (.slice (some ⟨g, 0, none⟩) n cap))
      exact ⟨_, _, hr, hgr.1, hgr.2⟩

theorem wpList_append_own_src {ops : Array Oper} {rest : List Oper} {o : Oper} {a : Act} {Q : Exit → Act → World → Prop} (hgd : o.guard = none) (s x : Operand) (t tx : TypeId)
    (ho : o.op = .call { callee := .builtin .append, args := #[s, x], argTypes := #[t, tx] })
    (base : Nat) (e : TypeId) (z : Value) (size bytes : Nat) (ht : P.underlying t = some (.slice e)) (hinfo : (P.info? e).map (fun i => (i.zero, i.size, i.bytes)) = some (some z, size, bytes))
    (hzs : z.cells.size = size) (hsz : 0 < size)
    (v : Value) (n : Nat) (xs : List Value) (hv : a.eval s = v) (hown : w.ownsRow base e size v n xs)
    (xv : Value) (m : Nat) (news : List Value) (hx : a.eval x = xv) (hs : Src P size tx xv m news w)
    (h63 : n + m ≤ maxLen) (hbytes : (n + m) * bytes ≤ 140737488355328) (hbase : base ≤ w.heap.size)
    (hK : ∀ v' w', w'.ownsRow base e size v' (n + m) (xs ++ news) → w.grownBy w' v.ownBlock → wpList P ops Q rest (a.put o.dst v') w') : wpList P ops Q (o :: rest) a w := by
  obtain ⟨i, hi, hzz⟩ := Option.map_eq_some_iff.1 hinfo
  simp only [Prod.mk.injEq] at hzz
  obtain ⟨hz, hsz', hb⟩ := hzz
  refine wpList_plain hgd fun K hK' => ?_
  obtain ⟨v', w', hrun, r1, r2⟩ := run_append_own_src (P := P) w base t tx o.type e i z size bytes ht hi hz hsz' hb hzs hsz v n xs hown xv m news hs h63 hbytes hbase
  unfold Oper.wp
  simp [execOp, ho, resolve, invoke, builtin, hv, hx, hrun, Result.andThen]
  exact hK' _ _ (hK v' w' r1 r2)

/-- A made slice, its world under a name of its own. -/
theorem wpList_make_named {ops : Array Oper} {rest : List Oper} {o : Oper} {a : Act} {Q : Exit → Act → World → Prop}
    (hg : o.guard = none) (l c : Operand) (t : TypeId) (hop : o.op = Op.makeSlice t l c)
    (e : TypeId) (z : Value) (bytes : Nat) (ht : P.underlying t = some (.slice e)) (hinfo : (P.info? e).map (fun i => (i.zero, i.size, i.bytes)) = some (some z, 1, bytes)) (hz1 : z.cells = #[z])
    (kl kc : IntKind) (n : Nat) (N : Int) (hN : N = (n : Int)) (hl : a.eval l = .int kl N) (hc : a.eval c = .int kc N) (hbytes : bytes * n ≤ 281474976710656) (h63 : n ≤ 9223372036854775807)
    (hK : ∀ w1, w1.rowIs w.heap.size e n (fun _ => z) → Below w.heap.size w w1 → w1.heap.size = w.heap.size + 1 → wpList P ops Q rest (a.put o.dst (.slice (some ⟨w.heap.size, 0, none⟩) n n)) w1) :
    wpList P ops Q (o :: rest) a w := by
  subst hN
  obtain ⟨i, hi, hzz⟩ := Option.map_eq_some_iff.1 hinfo
  simp only [Prod.mk.injEq] at hzz
  obtain ⟨hz, hs, hb⟩ := hzz
  exact wpList_make_row w hg l c t hop e i z ht hi hz hs hz1 kl kc n hl hc (by rw [hb]; exact hbytes) h63 (hK _ (World.rowIs_made w z n e) ((Below.refl _ _).alloc (Nat.le_refl _) _) (by simp))
end

theorem cell_alloc {w : World} {a : Addr} {v : Value} (h : w.cell? a = some v) (o : Obj) : (w.alloc o).cell? a = some v :=
  ((Below.refl _ w).alloc (Nat.le_refl _) o |>.cell (World.block_lt_of_cell? w a h)).trans h
theorem cell_new (w : World) (x : Value) (t : TypeId) : (w.alloc (.cells #[x] t)).cell? ⟨w.heap.size, 0, none⟩ = some x := by unfold World.cell?; rw [heap_alloc_new]; rfl
theorem frozen_new (w : World) (x : Value) (t : TypeId) (j : Nat) : (w.alloc (.cells #[x] t)).frozen? ⟨w.heap.size, j, none⟩ = false := by unfold World.frozen?; rw [heap_alloc_new]; simp
theorem frozen_below {w w' : World} {B : Nat} (h : Below B w w') {b j : Nat} (hb : b < B) (hf : w.frozen? ⟨b, j, none⟩ = false) : w'.frozen? ⟨b, j, none⟩ = false := (h.frozen (p := ⟨b, j, none⟩) hb).trans hf
theorem cell_below {w w' : World} {B : Nat} (h : Below B w w') {b j : Nat} {v : Value} (hb : b < B) (hc : w.cell? ⟨b, j, none⟩ = some v) : w'.cell? ⟨b, j, none⟩ = some v := (h.cell (p := ⟨b, j, none⟩) hb).trans hc
/-- One cell of the call's own: it holds a value and can be written. -/
structure One (w : World) (b : Nat) (x : Value) : Prop where
  cell : w.cell? ⟨b, 0, none⟩ = some x
  free : w.frozen? ⟨b, 0, none⟩ = false
theorem One.lt {w : World} {b : Nat} {x : Value} (h : One w b x) : b < w.heap.size := World.block_lt_of_cell? w _ h.cell
theorem One.below {w w' : World} {b : Nat} {x : Value} (h : One w b x) (hb : Below w.heap.size w w') : One w' b x := ⟨cell_below hb h.lt h.cell, frozen_below hb h.lt h.free⟩
theorem One.alloc {w : World} {b : Nat} {x : Value} (h : One w b x) (o : Obj) : One (w.alloc o) b x := h.below ((Below.refl _ _).alloc (Nat.le_refl _) o)
theorem One.new (w : World) (x : Value) (t : TypeId) : One (w.alloc (.cells #[x] t)) w.heap.size x := ⟨cell_new w x t, frozen_new w x t 0⟩
theorem One.drew {w : World} {b : Nat} {x : Value} (h : One w b x) : One w.drew b x := ⟨h.cell, h.free⟩
theorem One.set {w : World} {b : Nat} {x : Value} (h : One w b x) (y : Value) : One (w.setCell ⟨b, 0, none⟩ y) b y := ⟨World.cell?_setCell_same _ _ _ h.cell, by rw [World.frozen?_setCell]; exact h.free⟩
theorem One.other {w : World} {b c j : Nat} {x : Value} (h : One w b x) (hn : b ≠ c) (y : Value) : One (w.setCell ⟨c, j, none⟩ y) b x :=
  ⟨by rw [World.cell?_setCell_other _ _ _ _ (by intro e; exact hn (by injection e with e1; exact e1.symm))]; exact h.cell, by rw [World.frozen?_setCell]; exact h.free⟩
theorem One.drewN {w : World} {b : Nat} {x : Value} (h : One w b x) (n : Nat) : One (w.drewN n) b x := ⟨h.cell, h.free⟩
theorem below_drewN {B : Nat} {w W : World} (h : Below B w W) (n : Nat) : Below B w (W.drewN n) := ⟨h.os, h.tape, h.output, h.size, h.block⟩

/-- A slice of bytes that lies at the head of a block. -/
def ByteSl (w : World) (v : Value) (l : List Int) : Prop :=
  ∃ b cap, v = .slice (some ⟨b, 0, none⟩) l.length cap ∧ l.length ≤ cap ∧ cap ≤ maxLen ∧ (∀ i, i < l.length → w.cell? ⟨b, i, none⟩ = some (.int .u8 (l.getD i 0)))

theorem ByteSl.below {w w' : World} {v : Value} {l : List Int} (h : ByteSl w v l) (hb : Below w.heap.size w w') : ByteSl w' v l := by
  obtain ⟨b, cap, rfl, h1, h2, hc⟩ := h
  exact ⟨b, cap, rfl, h1, h2, fun i hi => (hb.cell (World.block_lt_of_cell? w _ (hc i hi))).trans (hc i hi)⟩

def byteVals (l : List Int) : List Value := l.map (.int .u8)
theorem byteVals_length (l : List Int) : (byteVals l).length = l.length := by simp [byteVals]
theorem byteVals_one (l : List Int) : ∀ u ∈ byteVals l, u.oneCell' = true := by
  intro u hu
  obtain ⟨_, _, rfl⟩ := List.mem_map.1 hu
  rfl

theorem add_plain (g j : Nat) : (⟨g, 0, none⟩ : Addr).add j = ⟨g, j, none⟩ := by unfold Addr.add; split <;> simp_all

/-- Cells of bytes as a source of an append. -/
theorem src_bytes {P : Program} {w : World} {tx e' : TypeId} (hk : P.underlying tx = some (.slice e')) (b cap : Nat) (l : List Int) (hc : ∀ i, i < l.length → w.cell? ⟨b, i, none⟩ = some (.int .u8 (l.getD i 0))) :
    Src P 1 tx (.slice (some ⟨b, 0, none⟩) l.length cap) l.length (byteVals l) w := by
  refine Src.ofSlice w hk ⟨b, 0, none⟩ l.length cap (byteVals l) (by rw [byteVals_length, Nat.mul_one]) (fun j u hu => ?_) (byteVals_one l)
  have hj : j < l.length := by have := (List.getElem?_eq_some_iff.1 hu).1; rwa [byteVals_length] at this
  rw [add_plain, hc j hj]
  simp only [byteVals, List.getElem?_map, List.getElem?_eq_getElem hj, Option.map_some, Option.some.injEq] at hu
  subst hu
  simp [List.getD, List.getElem?_eq_getElem hj]

/-- An owned row of bytes reads as a slice of bytes, if it is not nil. -/
theorem byteSl_of_own {w : World} {base e n : Nat} {v : Value} {l : List Int} (hl : l.length = n) (hn : 0 < n) (h : w.ownsRow base e 1 v n (byteVals l)) : ByteSl w v l := by
  rcases h.2 with ⟨rfl, h0⟩ | ⟨g, cap, cur, rfl, hb, hg, hnc, hcm, hcs, htake⟩
  · omega
  · subst hl
    refine ⟨g, cap, rfl, hnc, hcm, fun i hi => ?_⟩
    have h2 : w.cell? ⟨g, i, none⟩ = (byteVals l)[i]? := World.ownsRow.cellAt h i (by omega)
    rw [h2]
    simp [byteVals, List.getD, List.getElem?_eq_getElem hi]

/-- One new cell as a source of an append. -/
theorem src_one {P : Program} {tx e' : TypeId} (hk : P.underlying tx = some (.slice e')) (w : World) (x : Value) (t : TypeId) (h1 : x.oneCell' = true) :
    Src P 1 tx (.slice (some ⟨w.heap.size, 0, none⟩) 1 1) 1 [x] (w.alloc (.cells #[x] t)) := by
  refine Src.ofSlice _ hk ⟨w.heap.size, 0, none⟩ 1 1 [x] rfl (fun j u hu => ?_) (fun u hu => by rw [List.mem_singleton.1 hu]; exact h1)
  have hj : j = 0 := by have := (List.getElem?_eq_some_iff.1 hu).1; simpa using this
  subst hj
  rw [add_plain]
  simp only [List.getElem?_cons_zero, Option.some.injEq] at hu
  subst hu
  exact cell_new w _ t

/-- A slot written, the slot's number told. -/
def Act.at_ (a : Act) (d : Tmp) (v : Value) : Act := { a with tmps := a.tmps.setIfInBounds d v }
theorem put_at {a : Act} {o : Oper} {d : Tmp} {v : Value} (hd : o.dst = some d) : a.put o.dst v = Act.at_ a d v := by rw [hd]; rfl

/-- Operations of a region that draws its order, one by one, by hand: taken first; by what it yields; a call. -/
theorem take_at {P : Program} {md : Region.Mode} {ops : Array Oper} {Q : Exit → Act → World → Prop} (d : Tmp) {i : Nat} {oi : Oper} {v : Value} {fuel : Nat} {listed : Array Bool} {a : Act} {w : World} (hi : ops[i]? = some oi) (hd : oi.dst = some d)
    (hs : Region.noSelect ops = true) (hf : Region.free md ops listed i = true) (hr : (Region.ready md ops listed).contains i = true)
    (hQ : ∀ c a w, Q (.panic c) (a.put oi.dst v) w → Q (.panic c) a w) (hy : Yields P ops oi v a)
    (h : wpAny P md ops Q fuel (listed.setIfInBounds i true) (Act.at_ a d v) w) : wpAny P md ops Q (fuel + 1) listed a w :=
  wpAny_take hi hs hf hr hQ hy (by rw [put_at hd]; exact h)

theorem ready_op {P : Program} {md : Region.Mode} {ops : Array Oper} {Q : Exit → Act → World → Prop} (d : Tmp) {fuel : Nat} {listed : Array Bool} {a : Act} {w w' : World} {i : Nat} {o : Oper} {rs : List Nat} {v : Value}
    (ho : ops[i]? = some o) (hd : o.dst = some d) (hw : Region.wanted o (yielded ops a.tmps) = true) (hex : (execOp a.eval o).run P w = .ok (.value v) w')
    (h : wpAny P md ops Q fuel (listed.setIfInBounds i true) (Act.at_ a d v) w') (hs : AllReady P md ops Q fuel listed a w rs) : AllReady P md ops Q fuel listed a w (i :: rs) :=
  AllReady.cons ho (fun K hK => by rw [if_pos hw]; unfold Oper.wp; rw [hex]; exact hK _ _ (by rw [put_at hd]; exact h)) hs

theorem ready_call {P : Program} {md : Region.Mode} {ops : Array Oper} {Q : Exit → Act → World → Prop} (d : Tmp) {fuel : Nat} {listed : Array Bool} {a : Act} {w : World} {i : Nat} {o : Oper} {rs : List Nat} {f : FuncId} {args : Array Value}
    (ho : ops[i]? = some o) (hd : o.dst = some d) (hw : Region.wanted o (yielded ops a.tmps) = true) (hex : (execOp a.eval o).run P w = .ok (.enter f args) w)
    (h : Calls P f args w fun e w' => ∃ v, e = .returned v ∧ wpAny P md ops Q fuel (listed.setIfInBounds i true) (Act.at_ a d v) w') (hs : AllReady P md ops Q fuel listed a w rs) : AllReady P md ops Q fuel listed a w (i :: rs) :=
  AllReady.cons ho (fun K hK => by
    rw [if_pos hw]; unfold Oper.wp; rw [hex, Oper.upon_enter]
    refine h.mono ?_
    rintro e w' ⟨v, rfl, h2⟩
    refine hK _ _ ?_
    rw [put_at hd]
    exact h2) hs

theorem exec_convert {P : Program} {a : Act} {w w' : World} {o : Oper} {src dst : TypeId} {x : Operand} {v r : Value} (ho : o.op = .convert src dst x) (hx : a.eval x = v) (hr : (convert src dst v).run P w = .ok r w') :
    (execOp a.eval o).run P w = .ok (.value r) w' := by
  simp [execOp, ho, hx, hr]
end Go.Proofs.YtbfelpgojgaeoaaDoor
