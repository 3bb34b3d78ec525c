import Derived.Shelf.Unicode.Decode
import Derived.Shelf.Unicode.DecodeSlow
import Derived.Shelf.Unicode.DecodeAny
import Derived.Test.Qxb6608704aFmtProg
namespace Go.Proofs
open Go.Shelf
def Tryf.lays197_ren : Go.Shelf.Ren := ⟨fun | 197 => 25 | 260 => 29 | n => n, fun | 9 => 9 | 21 => 21 | 3 => 3 | 4 => 4 | 5 => 5 | 105 => 53 | 119 => 58 | 0 => 0 | 46 => 59 | 139 => 62 | 138 => 61 | n => n, fun | 3 => 0 | 4 => 1 | n => n⟩
theorem Tryf.lays197 : Go.Proofs.Lays.n197 Tryf.prog Tryf.lays197_ren := {
  mixed := by kernel_rfl
  f197 := Tryf.func25.trans (congrArg some (by kernel_rfl))
  f260 := Tryf.func29.trans (congrArg some (by kernel_rfl))
  t0 := Tryf.underlying0
  a0 := Tryf.isAgg0
  z0 := Tryf.sizeOf0
  v0 := Tryf.zeroValue0
  t3 := Tryf.underlying3
  a3 := Tryf.isAgg3
  z3 := Tryf.sizeOf3
  v3 := Tryf.zeroValue3
  t4 := Tryf.underlying4
  a4 := Tryf.isAgg4
  z4 := Tryf.sizeOf4
  v4 := Tryf.zeroValue4
  t5 := Tryf.underlying5
  a5 := Tryf.isAgg5
  z5 := Tryf.sizeOf5
  v5 := Tryf.zeroValue5
  t9 := Tryf.underlying9
  a9 := Tryf.isAgg9
  z9 := Tryf.sizeOf9
  v9 := Tryf.zeroValue9
  t21 := Tryf.underlying21
  a21 := Tryf.isAgg21
  z21 := Tryf.sizeOf21
  v21 := Tryf.zeroValue21
  t46 := Tryf.underlying59
  a46 := Tryf.isAgg59
  z46 := Tryf.sizeOf59
  v46 := Tryf.zeroValue59
  t105 := Tryf.underlying53
  a105 := Tryf.isAgg53
  z105 := Tryf.sizeOf53
  v105 := Tryf.zeroValue53
  t119 := Tryf.underlying58
  a119 := Tryf.isAgg58
  z119 := Tryf.sizeOf58
  t138 := Tryf.underlying61
  a138 := Tryf.isAgg61
  z138 := Tryf.sizeOf61
  v138 := Tryf.zeroValue61
  t139 := Tryf.underlying62
  a139 := Tryf.isAgg62
  z139 := Tryf.sizeOf62
  v139 := Tryf.zeroValue62
  g3 := by kernel_rfl
  g4 := by kernel_rfl }
open Go.RowKit Go.Lib in

theorem Tryf.utf8_DecodeRuneInString_ascii (s : ByteArray) (x : UInt8) (w : World) (h0 : s.data.toList[0]? = some x) (hx : x.toNat < 128) :
    Calls Tryf.prog 25 #[.string s] w fun e w' => e = .returned (.tuple #[.int .i32 x.toNat, .int .i64 1]) ∧ w' = w := Any.utf8_DecodeRuneInString_ascii Tryf.lays197 s x w h0 hx
def Tryf.lays260_ren : Go.Shelf.Ren := ⟨fun | 260 => 29 | n => n, fun | 9 => 9 | 21 => 21 | 3 => 3 | 4 => 4 | 5 => 5 | 119 => 58 | 0 => 0 | 46 => 59 | 139 => 62 | 138 => 61 | n => n, fun | 3 => 0 | 4 => 1 | n => n⟩
theorem Tryf.lays260 : Go.Proofs.Lays.n260 Tryf.prog Tryf.lays260_ren := {
  mixed := by kernel_rfl
  f260 := Tryf.func29.trans (congrArg some (by kernel_rfl))
  t0 := Tryf.underlying0
  a0 := Tryf.isAgg0
  z0 := Tryf.sizeOf0
  v0 := Tryf.zeroValue0
  t3 := Tryf.underlying3
  a3 := Tryf.isAgg3
  z3 := Tryf.sizeOf3
  v3 := Tryf.zeroValue3
  t4 := Tryf.underlying4
  a4 := Tryf.isAgg4
  z4 := Tryf.sizeOf4
  v4 := Tryf.zeroValue4
  t5 := Tryf.underlying5
  a5 := Tryf.isAgg5
  z5 := Tryf.sizeOf5
  v5 := Tryf.zeroValue5
  t9 := Tryf.underlying9
  a9 := Tryf.isAgg9
  z9 := Tryf.sizeOf9
  v9 := Tryf.zeroValue9
  t21 := Tryf.underlying21
  a21 := Tryf.isAgg21
  z21 := Tryf.sizeOf21
  v21 := Tryf.zeroValue21
  t46 := Tryf.underlying59
  a46 := Tryf.isAgg59
  z46 := Tryf.sizeOf59
  v46 := Tryf.zeroValue59
  t119 := Tryf.underlying58
  a119 := Tryf.isAgg58
  z119 := Tryf.sizeOf58
  t138 := Tryf.underlying61
  a138 := Tryf.isAgg61
  z138 := Tryf.sizeOf61
  v138 := Tryf.zeroValue61
  t139 := Tryf.underlying62
  a139 := Tryf.isAgg62
  z139 := Tryf.sizeOf62
  v139 := Tryf.zeroValue62
  g3 := by kernel_rfl
  g4 := by kernel_rfl }
open Go.RowKit Go.Lib in
theorem Tryf.utf8_decodeRuneInStringSlow (s : ByteArray) (w : World) (hT : Lib.Utf8Tabs 0 1 w) :
    Calls Tryf.prog 29 #[.string s] w fun e w' => e = .returned (.tuple #[.int .i32 (Lib.decodeGo s).1, .int .i64 (Lib.decodeGo s).2]) ∧ Below w.heap.size w w' := Any.utf8_decodeRuneInStringSlow Tryf.lays260 s w hT
open Go.RowKit Go.Lib in

theorem Tryf.utf8_DecodeRuneInString (s : ByteArray) (w : World) (hT : Lib.Utf8Tabs 0 1 w) :
    Calls Tryf.prog 25 #[.string s] w fun e w' => e = .returned (.tuple #[.int .i32 (Lib.decodeGo s).1, .int .i64 (Lib.decodeGo s).2]) ∧ Below w.heap.size w w' := Any.utf8_DecodeRuneInString Tryf.lays197 s w hT
end Go.Proofs
