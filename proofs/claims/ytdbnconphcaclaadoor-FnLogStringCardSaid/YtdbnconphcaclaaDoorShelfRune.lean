/-
  The library's contracts that this claim uses, as the kit's lay-shelf.mjs and lay-plain.mjs laid them at this seat's translation.
-/
import Derived.Shelf.Spec.DecodeRune
import Derived.Test.YtdbnconphcaclaaDoorProg
namespace Go.Proofs
open Go.Shelf
def Tryd.lays32_ren : Go.Shelf.Ren := ⟨fun | 32 => 73 | 49 => 87 | n => n, fun | 30 => 29 | 21 => 21 | 3 => 3 | 0 => 0 | 5 => 5 | 4 => 4 | 33 => 62 | 66 => 130 | 25 => 131 | 69 => 134 | 68 => 133 | n => n, fun | 2 => 0 | 3 => 1 | n => n⟩
theorem Tryd.lays32 : Go.Proofs.Lays7.n32 Tryd.prog Tryd.lays32_ren := {
  mixed := by kernel_rfl
  f32 := Tryd.func73.trans (congrArg some (by kernel_rfl))
  f49 := Tryd.func87.trans (congrArg some (by kernel_rfl))
  t0 := Tryd.underlying0
  a0 := Tryd.isAgg0
  z0 := Tryd.sizeOf0
  v0 := Tryd.zeroValue0
  i0 := by kernel_rfl
  t3 := Tryd.underlying3
  a3 := Tryd.isAgg3
  z3 := Tryd.sizeOf3
  v3 := Tryd.zeroValue3
  i3 := by kernel_rfl
  t4 := Tryd.underlying4
  a4 := Tryd.isAgg4
  z4 := Tryd.sizeOf4
  v4 := Tryd.zeroValue4
  i4 := by kernel_rfl
  t5 := Tryd.underlying5
  a5 := Tryd.isAgg5
  z5 := Tryd.sizeOf5
  v5 := Tryd.zeroValue5
  i5 := by kernel_rfl
  t21 := Tryd.underlying21
  a21 := Tryd.isAgg21
  z21 := Tryd.sizeOf21
  v21 := Tryd.zeroValue21
  i21 := by kernel_rfl
  t25 := Tryd.underlying131
  a25 := Tryd.isAgg131
  z25 := Tryd.sizeOf131
  v25 := Tryd.zeroValue131
  i25 := by kernel_rfl
  t30 := Tryd.underlying29
  a30 := Tryd.isAgg29
  z30 := Tryd.sizeOf29
  v30 := Tryd.zeroValue29
  i30 := by kernel_rfl
  t33 := Tryd.underlying62
  a33 := Tryd.isAgg62
  z33 := Tryd.sizeOf62
  v33 := Tryd.zeroValue62
  i33 := by kernel_rfl
  t66 := Tryd.underlying130
  a66 := Tryd.isAgg130
  z66 := Tryd.sizeOf130
  t68 := Tryd.underlying133
  a68 := Tryd.isAgg133
  z68 := Tryd.sizeOf133
  v68 := Tryd.zeroValue133
  i68 := by kernel_rfl
  t69 := Tryd.underlying134
  a69 := Tryd.isAgg134
  z69 := Tryd.sizeOf134
  v69 := Tryd.zeroValue134
  i69 := by kernel_rfl
  g2 := by kernel_rfl
  g3 := by kernel_rfl }
open Go.RowKit in
theorem Tryd.utf8_DecodeRune (s : ByteArray) (b off cap : Nat) (w : World) (hT : Lib.Utf8Tabs 0 1 w)
    (hp : ∀ j, j < s.size → w.cell? ⟨b, off + j, none⟩ = some (.int .u8 (s.get! j).toNat)) :
    Calls Tryd.prog 73 #[.slice (some ⟨b, off, none⟩) s.size cap] w fun e w' => e = .returned (.tuple #[.int .i32 (Lib.decodeGo s).1, .int .i64 (Lib.decodeGo s).2]) ∧ Below w.heap.size w w' := Any7.utf8_DecodeRune Tryd.lays32 s b off cap w hT hp
end Go.Proofs
