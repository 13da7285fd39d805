/-
  The library's contracts that this claim uses, as the kit's lay-shelf.mjs and lay-plain.mjs laid them at this seat's translation.
-/
import Derived.Shelf.Lay
import Derived.Shelf.LaySoft
import Derived.Shelf.LaysM
import Derived.Shelf.Small.Strs
import Derived.Shelf.Bytes.WriteByteAt
import Derived.Shelf.Bytes.WriteAt
import Derived.Shelf.Bytes.Bytes
import Derived.Shelf.Bytes.SlIndexAt
import Derived.Shelf.Bytes.SlSearch0
import Derived.Shelf.Bytes.IndexByte
import Derived.Test.YtdbnconphcaclaaDoorProg
namespace Go.Proofs
open Go.Shelf
def Tryd.lays137_ren : Go.Shelf.Ren := ⟨fun | 137 => 45 | 217 => 63 | 266 => 81 | n => n, fun | 9 => 9 | 5 => 5 | 3 => 3 | n => n, fun | n => n⟩
theorem Tryd.lays137 : Go.Proofs.Lays.n137 Tryd.prog Tryd.lays137_ren := {
  mixed := by kernel_rfl
  f137 := Tryd.func45.trans (congrArg some (by kernel_rfl))
  f217 := Tryd.func63.trans (congrArg some (by kernel_rfl))
  f266 := Tryd.func81.trans (congrArg some (by kernel_rfl))
  t3 := Tryd.underlying3
  a3 := Tryd.isAgg3
  z3 := Tryd.sizeOf3
  v3 := Tryd.zeroValue3
  t5 := Tryd.underlying5
  a5 := Tryd.isAgg5
  z5 := Tryd.sizeOf5
  v5 := Tryd.zeroValue5
  t9 := Tryd.underlying9
  a9 := Tryd.isAgg9
  z9 := Tryd.sizeOf9
  v9 := Tryd.zeroValue9 }
open Go.RowKit in
theorem Tryd.strings_IndexByte (s : ByteArray) (c : Int) (w : World) :
    Calls Tryd.prog 45 #[.string s, .int .u8 c] w fun e w' => e = .returned (.int .i64 (Lib.indexByte s.data.toList c.toNat.toUInt8)) ∧ w' = w := Any.strings_IndexByte Tryd.lays137 s c w
def Tryd.laysM183_ren : Go.Shelf.Ren := ⟨fun | 183 => 79 | n => n, fun | 130 => 99 | 37 => 29 | 0 => 0 | 93 => 145 | 3 => 3 | 5 => 5 | 91 => 143 | n => n, fun | n => n⟩
theorem Tryd.laysM183 : Go.Proofs.LaysM.n183 Tryd.prog Tryd.laysM183_ren := {
  mixed := by kernel_rfl
  f183 := Tryd.func79.trans (congrArg some (by kernel_rfl))
  t0 := Tryd.underlying0
  a0 := Tryd.isAgg0
  z0 := Tryd.sizeOf0
  v0 := Tryd.zeroValue0
  t3 := Tryd.underlying3
  a3 := Tryd.isAgg3
  z3 := Tryd.sizeOf3
  v3 := Tryd.zeroValue3
  t37 := Tryd.underlying29
  a37 := Tryd.isAgg29
  z37 := Tryd.sizeOf29
  v37 := Tryd.zeroValue29
  t93 := Tryd.underlying145
  a93 := Tryd.isAgg145
  z93 := Tryd.sizeOf145
  v93 := Tryd.zeroValue145
  t130 := Tryd.underlying99
  a130 := Tryd.isAgg99
  z130 := Tryd.sizeOf99
  v130 := Tryd.zeroValue99
  t5 := Tryd.underlying5
  a5 := Tryd.isAgg5
  z5 := Tryd.sizeOf5
  v5 := Tryd.zeroValue5
  t91 := Tryd.underlying143
  a91 := Tryd.isAgg143
  z91 := Tryd.sizeOf143
  v91 := Tryd.zeroValue143
  i0 := by kernel_rfl
  i3 := by kernel_rfl
  i5 := by kernel_rfl
  i37 := by kernel_rfl
  i91 := by kernel_rfl
  i93 := by kernel_rfl
  i130 := by kernel_rfl }
open Go.RowKit in
theorem Tryd.Buffer_Bytes (B b : Nat) (bs : List Value) (w : World) (h : Lib.IsBuffer 145 5 B b bs w) :
    Calls Tryd.prog 79 #[.pointer (some ⟨b, 0, none⟩)] w fun e w' => ∃ v, e = .returned v ∧ w'.ownsRow B 5 1 v bs.length bs ∧ ∃ n, w' = w.drewN n := Any.Buffer_Bytes Tryd.laysM183 B b bs w h
def Tryd.laysM180_ren : Go.Shelf.Ren := ⟨fun | 180 => 66 | 251 => 82 | 252 => 83 | 181 => 104 | 184 => 105 | 290 => 106 | 324 => 127 | n => n, fun | 130 => 99 | 37 => 29 | 3 => 3 | 75 => 95 | 0 => 0 | 93 => 145 | 91 => 143 | 131 => 59 | 4 => 4 | 20 => 20 | 5 => 5 | 80 => 54 | 9 => 9 | n => n, fun | 14 => 3 | n => n⟩
theorem Tryd.laysM180 : Go.Proofs.LaysM.n180 Tryd.prog Tryd.laysM180_ren := {
  mixed := by kernel_rfl
  f180 := Tryd.func66.trans (congrArg some (by kernel_rfl))
  f181 := Tryd.func104.trans (congrArg some (by kernel_rfl))
  f184 := Tryd.func105.trans (congrArg some (by kernel_rfl))
  f251 := Tryd.func82.trans (congrArg some (by kernel_rfl))
  f252 := Tryd.func83.trans (congrArg some (by kernel_rfl))
  f290 := Tryd.func106.trans (congrArg some (by kernel_rfl))
  f324 := Tryd.func127.trans (congrArg some (by kernel_rfl))
  t0 := Tryd.underlying0
  a0 := Tryd.isAgg0
  z0 := Tryd.sizeOf0
  v0 := Tryd.zeroValue0
  t3 := Tryd.underlying3
  a3 := Tryd.isAgg3
  z3 := Tryd.sizeOf3
  v3 := Tryd.zeroValue3
  t4 := Tryd.underlying4
  a4 := Tryd.isAgg4
  z4 := Tryd.sizeOf4
  v4 := Tryd.zeroValue4
  t20 := Tryd.underlying20
  a20 := Tryd.isAgg20
  z20 := Tryd.sizeOf20
  v20 := Tryd.zeroValue20
  t37 := Tryd.underlying29
  a37 := Tryd.isAgg29
  z37 := Tryd.sizeOf29
  v37 := Tryd.zeroValue29
  t75 := Tryd.underlying95
  a75 := Tryd.isAgg95
  z75 := Tryd.sizeOf95
  v75 := Tryd.zeroValue95
  t91 := Tryd.underlying143
  a91 := Tryd.isAgg143
  z91 := Tryd.sizeOf143
  v91 := Tryd.zeroValue143
  t93 := Tryd.underlying145
  a93 := Tryd.isAgg145
  z93 := Tryd.sizeOf145
  v93 := Tryd.zeroValue145
  t130 := Tryd.underlying99
  a130 := Tryd.isAgg99
  z130 := Tryd.sizeOf99
  v130 := Tryd.zeroValue99
  t131 := Tryd.underlying59
  a131 := Tryd.isAgg59
  z131 := Tryd.sizeOf59
  v131 := Tryd.zeroValue59
  g14 := by kernel_rfl
  t5 := Tryd.underlying5
  a5 := Tryd.isAgg5
  z5 := Tryd.sizeOf5
  v5 := Tryd.zeroValue5
  t9 := Tryd.underlying9
  a9 := Tryd.isAgg9
  z9 := Tryd.sizeOf9
  v9 := Tryd.zeroValue9
  t80 := Tryd.underlying54
  a80 := Tryd.isAgg54
  z80 := Tryd.sizeOf54
  v80 := Tryd.zeroValue54
  i0 := by kernel_rfl
  i3 := by kernel_rfl
  i4 := by kernel_rfl
  i5 := by kernel_rfl
  i9 := by kernel_rfl
  i20 := by kernel_rfl
  i37 := by kernel_rfl
  i75 := by kernel_rfl
  i80 := by kernel_rfl
  i91 := by kernel_rfl
  i93 := by kernel_rfl
  i130 := by kernel_rfl
  i131 := by kernel_rfl
  m14 := by kernel_rfl }
def Tryd.laysM179_ren : Go.Shelf.Ren := ⟨fun | 179 => 65 | 251 => 82 | 252 => 83 | 181 => 104 | 184 => 105 | 290 => 106 | 324 => 127 | n => n, fun | 130 => 99 | 5 => 5 | 75 => 95 | 0 => 0 | 93 => 145 | 91 => 143 | 3 => 3 | 131 => 59 | 4 => 4 | 37 => 29 | 20 => 20 | 80 => 54 | 9 => 9 | n => n, fun | 14 => 3 | n => n⟩
theorem Tryd.laysM179 : Go.Proofs.LaysM.n179 Tryd.prog Tryd.laysM179_ren := {
  mixed := by kernel_rfl
  f179 := Tryd.func65.trans (congrArg some (by kernel_rfl))
  f181 := Tryd.func104.trans (congrArg some (by kernel_rfl))
  f184 := Tryd.func105.trans (congrArg some (by kernel_rfl))
  f251 := Tryd.func82.trans (congrArg some (by kernel_rfl))
  f252 := Tryd.func83.trans (congrArg some (by kernel_rfl))
  f290 := Tryd.func106.trans (congrArg some (by kernel_rfl))
  f324 := Tryd.func127.trans (congrArg some (by kernel_rfl))
  t0 := Tryd.underlying0
  a0 := Tryd.isAgg0
  z0 := Tryd.sizeOf0
  v0 := Tryd.zeroValue0
  t3 := Tryd.underlying3
  a3 := Tryd.isAgg3
  z3 := Tryd.sizeOf3
  v3 := Tryd.zeroValue3
  t4 := Tryd.underlying4
  a4 := Tryd.isAgg4
  z4 := Tryd.sizeOf4
  v4 := Tryd.zeroValue4
  t5 := Tryd.underlying5
  a5 := Tryd.isAgg5
  z5 := Tryd.sizeOf5
  v5 := Tryd.zeroValue5
  t20 := Tryd.underlying20
  a20 := Tryd.isAgg20
  z20 := Tryd.sizeOf20
  v20 := Tryd.zeroValue20
  t37 := Tryd.underlying29
  a37 := Tryd.isAgg29
  z37 := Tryd.sizeOf29
  v37 := Tryd.zeroValue29
  t75 := Tryd.underlying95
  a75 := Tryd.isAgg95
  z75 := Tryd.sizeOf95
  v75 := Tryd.zeroValue95
  t91 := Tryd.underlying143
  a91 := Tryd.isAgg143
  z91 := Tryd.sizeOf143
  v91 := Tryd.zeroValue143
  t93 := Tryd.underlying145
  a93 := Tryd.isAgg145
  z93 := Tryd.sizeOf145
  v93 := Tryd.zeroValue145
  t130 := Tryd.underlying99
  a130 := Tryd.isAgg99
  z130 := Tryd.sizeOf99
  v130 := Tryd.zeroValue99
  t131 := Tryd.underlying59
  a131 := Tryd.isAgg59
  z131 := Tryd.sizeOf59
  v131 := Tryd.zeroValue59
  g14 := by kernel_rfl
  t9 := Tryd.underlying9
  a9 := Tryd.isAgg9
  z9 := Tryd.sizeOf9
  v9 := Tryd.zeroValue9
  t80 := Tryd.underlying54
  a80 := Tryd.isAgg54
  z80 := Tryd.sizeOf54
  v80 := Tryd.zeroValue54
  i0 := by kernel_rfl
  i3 := by kernel_rfl
  i4 := by kernel_rfl
  i5 := by kernel_rfl
  i9 := by kernel_rfl
  i20 := by kernel_rfl
  i37 := by kernel_rfl
  i75 := by kernel_rfl
  i80 := by kernel_rfl
  i91 := by kernel_rfl
  i93 := by kernel_rfl
  i130 := by kernel_rfl
  i131 := by kernel_rfl
  m14 := by kernel_rfl }
open Go.RowKit in
theorem Tryd.Buffer_WriteByte_at (T : TypeId) (R : Nat → Option Value) (B b q : Nat) (bs : List Value) (c : Int) (w : World) (h : LibA.IsBuffer T R 5 B b q bs w) (hBw : B ≤ w.heap.size) (h1 : ∀ v ∈ bs, v.oneCell' = true) (hlim : bs.length + 1 ≤ 140737488355328) :
    Calls Tryd.prog 65 #[.pointer (some ⟨b, q, none⟩), .int .u8 c] w fun e w' => e = .returned .nilIface ∧ LibA.IsBuffer T R 5 B b q (bs ++ [.int .u8 c]) w' ∧ Below B w w' ∧ Lib.OthersKept 5 (some b) w w' := Any.Buffer_WriteByte_at Tryd.laysM179 T R B b q bs c w h hBw h1 hlim
open Go.RowKit in
theorem Tryd.Buffer_Write_at (T : TypeId) (R : Nat → Option Value) (B b q : Nat) (bs cs : List Value) (a : Addr) (n c : Nat) (w : World) (h : LibA.IsBuffer T R 5 B b q bs w) (hBw : B ≤ w.heap.size) (h1 : ∀ v ∈ bs, v.oneCell' = true) (hn : cs.length = n) (hab : a.block ≠ b) (hsrc : ∀ j v, cs[j]? = some v → w.cell? (a.add j) = some v) (h1c : ∀ v ∈ cs, v.oneCell' = true) (hlim : bs.length + n ≤ 140737488355328) :
    Calls Tryd.prog 66 #[.pointer (some ⟨b, q, none⟩), .slice (some a) n c] w fun e w' => e = .returned (.tuple #[.int .i64 n, .nilIface]) ∧ LibA.IsBuffer T R 5 B b q (bs ++ cs) w' ∧ Below B w w' ∧ Lib.OthersKept 5 (some b) w w' := Any.Buffer_Write_at Tryd.laysM180 T R B b q bs cs a n c w h hBw h1 hn hab hsrc h1c hlim
def Tryd.lays187_ren : Go.Shelf.Ren := ⟨fun | 187 => 80 | 255 => 103 | n => n, fun | 37 => 29 | 5 => 5 | 3 => 3 | n => n, fun | n => n⟩
theorem Tryd.lays187 : Go.Proofs.Lays.n187 Tryd.prog Tryd.lays187_ren := {
  mixed := by kernel_rfl
  f187 := Tryd.func80.trans (congrArg some (by kernel_rfl))
  f255 := Tryd.func103.trans (congrArg some (by kernel_rfl))
  t3 := Tryd.underlying3
  a3 := Tryd.isAgg3
  z3 := Tryd.sizeOf3
  v3 := Tryd.zeroValue3
  t5 := Tryd.underlying5
  a5 := Tryd.isAgg5
  z5 := Tryd.sizeOf5
  v5 := Tryd.zeroValue5
  t37 := Tryd.underlying29
  a37 := Tryd.isAgg29
  z37 := Tryd.sizeOf29
  v37 := Tryd.zeroValue29 }
open Go.Proofs Go.RowKit Go.Lib in
theorem Tryd.bytes_IndexByte_bytes (b o cap : Nat) (t : ByteArray) (cv : Int) (w : World) (hc : Lib.Bytes w b o t) :
    Calls Tryd.prog 80 #[.slice (some ⟨b, o, none⟩) t.size cap, .int .u8 cv] w fun e w' => e = .returned (.int .i64 (Lib.indexByte t.data.toList cv.toNat.toUInt8)) ∧ w' = w := Any.bytes_IndexByte_bytes Tryd.lays187 b o cap t cv w hc
end Go.Proofs
