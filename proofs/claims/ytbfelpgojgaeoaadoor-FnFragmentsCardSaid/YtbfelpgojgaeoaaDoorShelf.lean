/-
  DERIVED: THE SHELF's CONTRACTS AT THIS DUMP, IN PLAIN WORDS (tools/lay-plain.mjs out of 'HdShelf.lean', which tools/lay-shelf.mjs wrote): THE SAME DECLARATIONS UNDER THE SAME NAMES: 'import', 'namespace', 'open', 'def', 'theorem' AND NOTHING ELSE: no command of the shelf's: FOR A HAND-IN. Each laying: the table of numbers ('.._ren') and one theorem, a field a fact of the dump's own or the kernel's comparison; each contract: ONE APPLICATION.
-/
import Derived.Shelf.Lays7
import Derived.Shelf.Spec.DecodeLastRune
import Derived.Shelf.Spec.DecodeRune
import Derived.Shelf.Spec.RuneCount
import Derived.Shelf.Utf8.RuneCount
import Derived.Test.YtbfelpgojgaeoaaDoorProg
namespace Go.Proofs
open Go.Shelf
def Tryd.lays733_ren : Go.Shelf.Ren := ⟨fun | 33 => 25 | 50 => 30 | 32 => 24 | 49 => 29 | n => n, fun | 30 => 42 | 21 => 21 | 3 => 3 | 4 => 4 | 0 => 0 | 5 => 5 | 33 => 65 | 66 => 31 | 25 => 35 | 69 => 34 | 68 => 33 | n => n, fun | 2 => 0 | 3 => 1 | n => n⟩
theorem Tryd.lays733 : Go.Proofs.Lays7.n33 Tryd.prog Tryd.lays733_ren := {
  mixed := by kernel_rfl
  f32 := Tryd.func24.trans (congrArg some (by kernel_rfl))
  f33 := Tryd.func25.trans (congrArg some (by kernel_rfl))
  f49 := Tryd.func29.trans (congrArg some (by kernel_rfl))
  f50 := Tryd.func30.trans (congrArg some (by kernel_rfl))
  t0 := Tryd.underlying0
  a0 := Tryd.isAgg0
  z0 := Tryd.sizeOf0
  v0 := Tryd.zeroValue0
  i0 := by kernel_rfl
  t3 := Tryd.underlying3
  a3 := Tryd.isAgg3
  z3 := Tryd.sizeOf3
  v3 := Tryd.zeroValue3
  i3 := by kernel_rfl
  t4 := Tryd.underlying4
  a4 := Tryd.isAgg4
  z4 := Tryd.sizeOf4
  v4 := Tryd.zeroValue4
  i4 := by kernel_rfl
  t5 := Tryd.underlying5
  a5 := Tryd.isAgg5
  z5 := Tryd.sizeOf5
  v5 := Tryd.zeroValue5
  i5 := by kernel_rfl
  t21 := Tryd.underlying21
  a21 := Tryd.isAgg21
  z21 := Tryd.sizeOf21
  v21 := Tryd.zeroValue21
  i21 := by kernel_rfl
  t25 := Tryd.underlying35
  a25 := Tryd.isAgg35
  z25 := Tryd.sizeOf35
  v25 := Tryd.zeroValue35
  i25 := by kernel_rfl
  t30 := Tryd.underlying42
  a30 := Tryd.isAgg42
  z30 := Tryd.sizeOf42
  v30 := Tryd.zeroValue42
  i30 := by kernel_rfl
  t33 := Tryd.underlying65
  a33 := Tryd.isAgg65
  z33 := Tryd.sizeOf65
  v33 := Tryd.zeroValue65
  i33 := by kernel_rfl
  t66 := Tryd.underlying31
  a66 := Tryd.isAgg31
  z66 := Tryd.sizeOf31
  t68 := Tryd.underlying33
  a68 := Tryd.isAgg33
  z68 := Tryd.sizeOf33
  v68 := Tryd.zeroValue33
  i68 := by kernel_rfl
  t69 := Tryd.underlying34
  a69 := Tryd.isAgg34
  z69 := Tryd.sizeOf34
  v69 := Tryd.zeroValue34
  i69 := by kernel_rfl
  g2 := by kernel_rfl
  g3 := by kernel_rfl }
open Go.RowKit in
theorem Tryd.utf8_DecodeLastRune (s : ByteArray) (b off cap : Nat) (w : World) (hcap : s.size ≤ cap) (hp : ∀ j, j < s.size → w.cell? ⟨b, off + j, none⟩ = some (.int .u8 (s.get! j).toNat)) (hs : s.size ≤ 9223372036854775807) (hT : Lib.Utf8Tabs 0 1 w) :
    Calls Tryd.prog 25 #[.slice (some ⟨b, off, none⟩) s.size cap] w fun e w' => e = .returned (.tuple #[.int .i32 (Lib.decodeLastL s.data.toList).1, .int .i64 (Lib.decodeLastL s.data.toList).2]) ∧ Below w.heap.size w w' := Any7.utf8_DecodeLastRune Tryd.lays733 s b off cap w hcap hp hs hT
def Tryd.lays732_ren : Go.Shelf.Ren := ⟨fun | 32 => 24 | 49 => 29 | n => n, fun | 30 => 42 | 21 => 21 | 3 => 3 | 0 => 0 | 5 => 5 | 4 => 4 | 33 => 65 | 66 => 31 | 25 => 35 | 69 => 34 | 68 => 33 | n => n, fun | 2 => 0 | 3 => 1 | n => n⟩
theorem Tryd.lays732 : Go.Proofs.Lays7.n32 Tryd.prog Tryd.lays732_ren := {
  mixed := by kernel_rfl
  f32 := Tryd.func24.trans (congrArg some (by kernel_rfl))
  f49 := Tryd.func29.trans (congrArg some (by kernel_rfl))
  t0 := Tryd.underlying0
  a0 := Tryd.isAgg0
  z0 := Tryd.sizeOf0
  v0 := Tryd.zeroValue0
  i0 := by kernel_rfl
  t3 := Tryd.underlying3
  a3 := Tryd.isAgg3
  z3 := Tryd.sizeOf3
  v3 := Tryd.zeroValue3
  i3 := by kernel_rfl
  t4 := Tryd.underlying4
  a4 := Tryd.isAgg4
  z4 := Tryd.sizeOf4
  v4 := Tryd.zeroValue4
  i4 := by kernel_rfl
  t5 := Tryd.underlying5
  a5 := Tryd.isAgg5
  z5 := Tryd.sizeOf5
  v5 := Tryd.zeroValue5
  i5 := by kernel_rfl
  t21 := Tryd.underlying21
  a21 := Tryd.isAgg21
  z21 := Tryd.sizeOf21
  v21 := Tryd.zeroValue21
  i21 := by kernel_rfl
  t25 := Tryd.underlying35
  a25 := Tryd.isAgg35
  z25 := Tryd.sizeOf35
  v25 := Tryd.zeroValue35
  i25 := by kernel_rfl
  t30 := Tryd.underlying42
  a30 := Tryd.isAgg42
  z30 := Tryd.sizeOf42
  v30 := Tryd.zeroValue42
  i30 := by kernel_rfl
  t33 := Tryd.underlying65
  a33 := Tryd.isAgg65
  z33 := Tryd.sizeOf65
  v33 := Tryd.zeroValue65
  i33 := by kernel_rfl
  t66 := Tryd.underlying31
  a66 := Tryd.isAgg31
  z66 := Tryd.sizeOf31
  t68 := Tryd.underlying33
  a68 := Tryd.isAgg33
  z68 := Tryd.sizeOf33
  v68 := Tryd.zeroValue33
  i68 := by kernel_rfl
  t69 := Tryd.underlying34
  a69 := Tryd.isAgg34
  z69 := Tryd.sizeOf34
  v69 := Tryd.zeroValue34
  i69 := by kernel_rfl
  g2 := by kernel_rfl
  g3 := by kernel_rfl }
open Go.RowKit in
theorem Tryd.utf8_DecodeRune (s : ByteArray) (b off cap : Nat) (w : World) (hT : Lib.Utf8Tabs 0 1 w) (hp : ∀ j, j < s.size → w.cell? ⟨b, off + j, none⟩ = some (.int .u8 (s.get! j).toNat)) :
    Calls Tryd.prog 24 #[.slice (some ⟨b, off, none⟩) s.size cap] w fun e w' => e = .returned (.tuple #[.int .i32 (Lib.decodeGo s).1, .int .i64 (Lib.decodeGo s).2]) ∧ Below w.heap.size w w' := Any7.utf8_DecodeRune Tryd.lays732 s b off cap w hT hp
def Tryd.lays731_ren : Go.Shelf.Ren := ⟨fun | 31 => 26 | 48 => 8 | n => n, fun | 30 => 42 | 3 => 3 | 4 => 4 | 0 => 0 | 5 => 5 | 9 => 9 | n => n, fun | n => n⟩
theorem Tryd.lays731 : Go.Proofs.Lays7.n31 Tryd.prog Tryd.lays731_ren := {
  mixed := by kernel_rfl
  f31 := Tryd.func26.trans (congrArg some (by kernel_rfl))
  f48 := Tryd.func8.trans (congrArg some (by kernel_rfl))
  t0 := Tryd.underlying0
  a0 := Tryd.isAgg0
  z0 := Tryd.sizeOf0
  v0 := Tryd.zeroValue0
  i0 := by kernel_rfl
  t3 := Tryd.underlying3
  a3 := Tryd.isAgg3
  z3 := Tryd.sizeOf3
  v3 := Tryd.zeroValue3
  i3 := by kernel_rfl
  t4 := Tryd.underlying4
  a4 := Tryd.isAgg4
  z4 := Tryd.sizeOf4
  v4 := Tryd.zeroValue4
  i4 := by kernel_rfl
  t5 := Tryd.underlying5
  a5 := Tryd.isAgg5
  z5 := Tryd.sizeOf5
  v5 := Tryd.zeroValue5
  i5 := by kernel_rfl
  t9 := Tryd.underlying9
  a9 := Tryd.isAgg9
  z9 := Tryd.sizeOf9
  v9 := Tryd.zeroValue9
  i9 := by kernel_rfl
  t30 := Tryd.underlying42
  a30 := Tryd.isAgg42
  z30 := Tryd.sizeOf42
  v30 := Tryd.zeroValue42
  i30 := by kernel_rfl }
open Go.RowKit in
theorem Tryd.utf8_RuneCount (s : ByteArray) (b off cap : Nat) (w : World) (hcap : s.size ≤ cap) (hp : ∀ j, j < s.size → w.cell? ⟨b, off + j, none⟩ = some (.int .u8 (s.get! j).toNat)) (hs : s.size < 9223372036854775807) :
    Calls Tryd.prog 26 #[.slice (some ⟨b, off, none⟩) s.size cap] w fun e w' => e = .returned (.int .i64 (Lib.runeCount s)) ∧ (w' = w ∨ ∃ t pos, w' = w.iter t pos) := Any7.utf8_RuneCount Tryd.lays731 s b off cap w hcap hp hs
def Tryd.lays195_ren : Go.Shelf.Ren := ⟨fun | 195 => 8 | n => n, fun | 9 => 9 | 3 => 3 | 0 => 0 | 4 => 4 | n => n, fun | n => n⟩
theorem Tryd.lays195 : Go.Proofs.Lays.n195 Tryd.prog Tryd.lays195_ren := {
  mixed := by kernel_rfl
  f195 := Tryd.func8.trans (congrArg some (by kernel_rfl))
  t0 := Tryd.underlying0
  a0 := Tryd.isAgg0
  z0 := Tryd.sizeOf0
  v0 := Tryd.zeroValue0
  t3 := Tryd.underlying3
  a3 := Tryd.isAgg3
  z3 := Tryd.sizeOf3
  v3 := Tryd.zeroValue3
  t4 := Tryd.underlying4
  a4 := Tryd.isAgg4
  z4 := Tryd.sizeOf4
  v4 := Tryd.zeroValue4
  t9 := Tryd.underlying9
  a9 := Tryd.isAgg9
  z9 := Tryd.sizeOf9
  v9 := Tryd.zeroValue9 }
open Go.RowKit in
theorem Tryd.utf8_RuneCountInString (s : ByteArray) (w : World) (hs : s.size < 9223372036854775807) :
    Calls Tryd.prog 8 #[.string s] w fun e w' => e = .returned (.int .i64 (Lib.runeCount s)) ∧ ∃ pos, w' = w.iter s pos := Any.utf8_RuneCountInString Tryd.lays195 s w hs
end Go.Proofs
