/-
  The shelf's contracts on strings.IndexByte and utf8.DecodeRune at this dump, in plain words (the kit's lay-plain.mjs wrote them for this program).
-/
import Derived.Shelf.Small.Strs
import Derived.Shelf.Spec.DecodeRune
import Derived.Test.Qxb6604447aGreatFmtProg
namespace Go.Proofs
open Go.Shelf
def Tryz.lays137_ren : Go.Shelf.Ren := ⟨fun | 137 => 44 | 217 => 53 | 266 => 60 | n => n, fun | 9 => 9 | 5 => 5 | 3 => 3 | n => n, fun | n => n⟩
theorem Tryz.lays137 : Go.Proofs.Lays.n137 Tryz.prog Tryz.lays137_ren := {
  mixed := by kernel_rfl
  f137 := Tryz.func44.trans (congrArg some (by kernel_rfl))
  f217 := Tryz.func53.trans (congrArg some (by kernel_rfl))
  f266 := Tryz.func60.trans (congrArg some (by kernel_rfl))
  t3 := Tryz.underlying3
  a3 := Tryz.isAgg3
  z3 := Tryz.sizeOf3
  v3 := Tryz.zeroValue3
  t5 := Tryz.underlying5
  a5 := Tryz.isAgg5
  z5 := Tryz.sizeOf5
  v5 := Tryz.zeroValue5
  t9 := Tryz.underlying9
  a9 := Tryz.isAgg9
  z9 := Tryz.sizeOf9
  v9 := Tryz.zeroValue9 }
open Go.RowKit in
theorem Tryz.strings_IndexByte (s : ByteArray) (c : Int) (w : World) :
    Calls Tryz.prog 44 #[.string s, .int .u8 c] w fun e w' => e = .returned (.int .i64 (Lib.indexByte s.data.toList c.toNat.toUInt8)) ∧ w' = w := Any.strings_IndexByte Tryz.lays137 s c w
def Tryz.lays32_ren : Go.Shelf.Ren := ⟨fun | 32 => 35 | 49 => 43 | n => n, fun | 30 => 25 | 21 => 21 | 3 => 3 | 0 => 0 | 5 => 5 | 4 => 4 | 33 => 68 | 66 => 86 | 25 => 59 | 69 => 89 | 68 => 88 | n => n, fun | 2 => 1 | 3 => 2 | n => n⟩
theorem Tryz.lays32 : Go.Proofs.Lays7.n32 Tryz.prog Tryz.lays32_ren := {
  mixed := by kernel_rfl
  f32 := Tryz.func35.trans (congrArg some (by kernel_rfl))
  f49 := Tryz.func43.trans (congrArg some (by kernel_rfl))
  t0 := Tryz.underlying0
  a0 := Tryz.isAgg0
  z0 := Tryz.sizeOf0
  v0 := Tryz.zeroValue0
  i0 := by kernel_rfl
  t3 := Tryz.underlying3
  a3 := Tryz.isAgg3
  z3 := Tryz.sizeOf3
  v3 := Tryz.zeroValue3
  i3 := by kernel_rfl
  t4 := Tryz.underlying4
  a4 := Tryz.isAgg4
  z4 := Tryz.sizeOf4
  v4 := Tryz.zeroValue4
  i4 := by kernel_rfl
  t5 := Tryz.underlying5
  a5 := Tryz.isAgg5
  z5 := Tryz.sizeOf5
  v5 := Tryz.zeroValue5
  i5 := by kernel_rfl
  t21 := Tryz.underlying21
  a21 := Tryz.isAgg21
  z21 := Tryz.sizeOf21
  v21 := Tryz.zeroValue21
  i21 := by kernel_rfl
  t25 := Tryz.underlying59
  a25 := Tryz.isAgg59
  z25 := Tryz.sizeOf59
  v25 := Tryz.zeroValue59
  i25 := by kernel_rfl
  t30 := Tryz.underlying25
  a30 := Tryz.isAgg25
  z30 := Tryz.sizeOf25
  v30 := Tryz.zeroValue25
  i30 := by kernel_rfl
  t33 := Tryz.underlying68
  a33 := Tryz.isAgg68
  z33 := Tryz.sizeOf68
  v33 := Tryz.zeroValue68
  i33 := by kernel_rfl
  t66 := Tryz.underlying86
  a66 := Tryz.isAgg86
  z66 := Tryz.sizeOf86
  t68 := Tryz.underlying88
  a68 := Tryz.isAgg88
  z68 := Tryz.sizeOf88
  v68 := Tryz.zeroValue88
  i68 := by kernel_rfl
  t69 := Tryz.underlying89
  a69 := Tryz.isAgg89
  z69 := Tryz.sizeOf89
  v69 := Tryz.zeroValue89
  i69 := by kernel_rfl
  g2 := by kernel_rfl
  g3 := by kernel_rfl }
open Go.RowKit Go.Lib in
theorem Tryz.utf8_DecodeRune (s : ByteArray) (b off cap : Nat) (w : World) (hT : Lib.Utf8Tabs 1 2 w)
    (hp : ∀ j, j < s.size → w.cell? ⟨b, off + j, none⟩ = some (.int .u8 (s.get! j).toNat)) :
    Calls Tryz.prog 35 #[.slice (some ⟨b, off, none⟩) s.size cap] w fun e w' => e = .returned (.tuple #[.int .i32 (Lib.decodeGo s).1, .int .i64 (Lib.decodeGo s).2]) ∧ Below w.heap.size w w' := Any7.utf8_DecodeRune Tryz.lays32 s b off cap w hT hp
end Go.Proofs
