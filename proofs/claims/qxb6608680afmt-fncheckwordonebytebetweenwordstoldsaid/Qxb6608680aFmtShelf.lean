import Derived.Shelf.GgClosure.StringsIndexFunc
import Derived.Ground.GgwProg
import Derived.Shelf.GgClosure.StringsIndexFuncTop
import Derived.Shelf.GgClosure.StringsRunes
import Derived.Shelf.Unicode.Latin
import Derived.Shelf.Unicode.Decode
import Derived.Shelf.Unicode.DecodeSlow
import Derived.Shelf.Unicode.DecodeAny
import Derived.Shelf.Unicode.Is16White
import Derived.Shelf.Unicode.IsSpaceAny
import Derived.Shelf.Unicode.Is16Any
import Derived.Shelf.Unicode.Is32Any
import Derived.Shelf.Unicode.ExclAny
import Derived.Shelf.Strings.FuncGrows
import Derived.Ground.GgnProg
import Derived.Shelf.Unicode.PredsGn
import Derived.Shelf.Unicode.InGn
import Derived.Test.Qxb6608680aFmtProg
namespace Go.Proofs
open Go.Shelf
def Tryf.lays315_ren : Go.Shelf.Ren := ⟨fun | 315 => 18 | n => n, fun | 9 => 9 | 40 => 30 | 4 => 4 | 3 => 3 | 0 => 0 | 21 => 21 | n => n, fun | n => n⟩
theorem Tryf.lays315 : Go.Proofs.Lays.n315 Tryf.prog Tryf.lays315_ren := {
  mixed := by kernel_rfl
  f315 := Tryf.func18.trans (congrArg some (by kernel_rfl))
  t0 := Tryf.underlying0
  a0 := Tryf.isAgg0
  z0 := Tryf.sizeOf0
  v0 := Tryf.zeroValue0
  t3 := Tryf.underlying3
  a3 := Tryf.isAgg3
  z3 := Tryf.sizeOf3
  v3 := Tryf.zeroValue3
  t4 := Tryf.underlying4
  a4 := Tryf.isAgg4
  z4 := Tryf.sizeOf4
  v4 := Tryf.zeroValue4
  t9 := Tryf.underlying9
  a9 := Tryf.isAgg9
  z9 := Tryf.sizeOf9
  v9 := Tryf.zeroValue9
  t21 := Tryf.underlying21
  a21 := Tryf.isAgg21
  z21 := Tryf.sizeOf21
  v21 := Tryf.zeroValue21
  t40 := Tryf.underlying30
  a40 := Tryf.isAgg30
  z40 := Tryf.sizeOf30
  v40 := Tryf.zeroValue30 }
open Go.RowKit Go.Lib in
theorem Tryf.strings_indexFunc (g : Nat) (lb : Array Value) (eg : ∀ args w, (callFunc g args).run Tryf.prog w = .ok (.enter g args) w) (p : Nat → Bool) (truth : Bool) (s : ByteArray) (w : World) (hp : PredAt Tryf.prog g lb encR p w) :
    Calls Tryf.prog 18 #[.string s, .func (.func g) #[] lb, .bool truth] w fun e w' => e = .returned (.int .i64 (Lib.idxFunc p truth s)) ∧ Below w.heap.size w w' := Any.strings_indexFunc Tryf.lays315 g lb eg p truth s w hp
def Tryf.laysGw15_ren : Go.Shelf.Ren := ⟨fun | 15 => 11 | 20 => 18 | n => n, fun | 9 => 9 | 23 => 30 | 3 => 3 | 4 => 4 | 0 => 0 | 21 => 21 | n => n, fun | n => n⟩
theorem Tryf.laysGw15 : Go.Proofs.LaysGw.n15 Tryf.prog Tryf.laysGw15_ren := {
  mixed := by kernel_rfl
  f15 := Tryf.func11.trans (congrArg some (by kernel_rfl))
  f20 := Tryf.func18.trans (congrArg some (by kernel_rfl))
  t0 := Tryf.underlying0
  a0 := Tryf.isAgg0
  z0 := Tryf.sizeOf0
  v0 := Tryf.zeroValue0
  i0 := by kernel_rfl
  t3 := Tryf.underlying3
  a3 := Tryf.isAgg3
  z3 := Tryf.sizeOf3
  v3 := Tryf.zeroValue3
  i3 := by kernel_rfl
  t4 := Tryf.underlying4
  a4 := Tryf.isAgg4
  z4 := Tryf.sizeOf4
  v4 := Tryf.zeroValue4
  i4 := by kernel_rfl
  t9 := Tryf.underlying9
  a9 := Tryf.isAgg9
  z9 := Tryf.sizeOf9
  v9 := Tryf.zeroValue9
  i9 := by kernel_rfl
  t21 := Tryf.underlying21
  a21 := Tryf.isAgg21
  z21 := Tryf.sizeOf21
  v21 := Tryf.zeroValue21
  i21 := by kernel_rfl
  t23 := Tryf.underlying30
  a23 := Tryf.isAgg30
  z23 := Tryf.sizeOf30
  v23 := Tryf.zeroValue30
  i23 := by kernel_rfl }
open Go.RowKit Go.Lib in
theorem Tryf.strings_IndexFunc (g : Nat) (lb : Array Value) (eg : ∀ args w, (callFunc g args).run Tryf.prog w = .ok (.enter g args) w) (p : Nat → Bool) (s : ByteArray) (w : World) (hp : PredAt Tryf.prog g lb encR p w) :
    Calls Tryf.prog 11 #[.string s, .func (.func g) #[] lb] w fun e w' => e = .returned (.int .i64 (Lib.idxFunc p true s)) ∧ Below w.heap.size w w' := Any.strings_IndexFunc Tryf.laysGw15 g lb eg p s w hp
def Tryf.laysGw17_ren : Go.Shelf.Ren := ⟨fun | 17 => 14 | 15 => 11 | 20 => 18 | n => n, fun | 9 => 9 | 23 => 30 | 4 => 4 | 3 => 3 | 0 => 0 | 21 => 21 | n => n, fun | n => n⟩
theorem Tryf.laysGw17 : Go.Proofs.LaysGw.n17 Tryf.prog Tryf.laysGw17_ren := {
  mixed := by kernel_rfl
  f15 := Tryf.func11.trans (congrArg some (by kernel_rfl))
  f17 := Tryf.func14.trans (congrArg some (by kernel_rfl))
  f20 := Tryf.func18.trans (congrArg some (by kernel_rfl))
  t0 := Tryf.underlying0
  a0 := Tryf.isAgg0
  z0 := Tryf.sizeOf0
  v0 := Tryf.zeroValue0
  i0 := by kernel_rfl
  t3 := Tryf.underlying3
  a3 := Tryf.isAgg3
  z3 := Tryf.sizeOf3
  v3 := Tryf.zeroValue3
  i3 := by kernel_rfl
  t4 := Tryf.underlying4
  a4 := Tryf.isAgg4
  z4 := Tryf.sizeOf4
  v4 := Tryf.zeroValue4
  i4 := by kernel_rfl
  t9 := Tryf.underlying9
  a9 := Tryf.isAgg9
  z9 := Tryf.sizeOf9
  v9 := Tryf.zeroValue9
  i9 := by kernel_rfl
  t21 := Tryf.underlying21
  a21 := Tryf.isAgg21
  z21 := Tryf.sizeOf21
  v21 := Tryf.zeroValue21
  i21 := by kernel_rfl
  t23 := Tryf.underlying30
  a23 := Tryf.isAgg30
  z23 := Tryf.sizeOf30
  v23 := Tryf.zeroValue30
  i23 := by kernel_rfl }
open Go.RowKit Go.Lib in
theorem Tryf.strings_ContainsFunc (g : Nat) (lb : Array Value) (eg : ∀ args w, (callFunc g args).run Tryf.prog w = .ok (.enter g args) w) (p : Nat → Bool) (s : ByteArray) (w : World) (hp : PredAt Tryf.prog g lb encR p w) :
    Calls Tryf.prog 14 #[.string s, .func (.func g) #[] lb] w fun e w' => e = .returned (.bool (decide (0 ≤ Lib.idxFunc p true s))) ∧ Below w.heap.size w w' := Any.strings_ContainsFunc Tryf.laysGw17 g lb eg p s w hp
open Go.RowKit Go.Lib in
theorem Tryf.strings_indexFunc_runes (g : Nat) (lb : Array Value) (eg : ∀ args w, (callFunc g args).run Tryf.prog w = .ok (.enter g args) w) (p : Nat → Bool) (truth : Bool) (s : ByteArray) (w : World) (hp : PredAtRunes Tryf.prog g lb p w) :
    Calls Tryf.prog 18 #[.string s, .func (.func g) #[] lb, .bool truth] w fun e w' => e = .returned (.int .i64 (Lib.idxFunc p truth s)) ∧ Below w.heap.size w w' := Any.strings_indexFunc_runes Tryf.lays315 g lb eg p truth s w hp
open Go.RowKit Go.Lib in
theorem Tryf.strings_IndexFunc_runes (g : Nat) (lb : Array Value) (eg : ∀ args w, (callFunc g args).run Tryf.prog w = .ok (.enter g args) w) (p : Nat → Bool) (s : ByteArray) (w : World) (hp : PredAtRunes Tryf.prog g lb p w) :
    Calls Tryf.prog 11 #[.string s, .func (.func g) #[] lb] w fun e w' => e = .returned (.int .i64 (Lib.idxFunc p true s)) ∧ Below w.heap.size w w' := Any.strings_IndexFunc_runes Tryf.laysGw15 g lb eg p s w hp
open Go.RowKit Go.Lib in
theorem Tryf.strings_ContainsFunc_runes (g : Nat) (lb : Array Value) (eg : ∀ args w, (callFunc g args).run Tryf.prog w = .ok (.enter g args) w) (p : Nat → Bool) (s : ByteArray) (w : World) (hp : PredAtRunes Tryf.prog g lb p w) :
    Calls Tryf.prog 14 #[.string s, .func (.func g) #[] lb] w fun e w' => e = .returned (.bool (decide (0 ≤ Lib.idxFunc p true s))) ∧ Below w.heap.size w w' := Any.strings_ContainsFunc_runes Tryf.laysGw17 g lb eg p s w hp
def Tryf.lays199_ren : Go.Shelf.Ren := ⟨fun | 199 => 15 | 261 => 20 | 311 => 24 | 312 => 25 | n => n, fun | 21 => 21 | 4 => 4 | 51 => 41 | 141 => 37 | 0 => 0 | 196 => 49 | 193 => 46 | 3 => 3 | 198 => 52 | 49 => 50 | 194 => 47 | 201 => 55 | 226 => 62 | 46 => 58 | 227 => 63 | n => n, fun | 6 => 2 | n => n⟩
theorem Tryf.lays199 : Go.Proofs.Lays.n199 Tryf.prog Tryf.lays199_ren := {
  mixed := by kernel_rfl
  f199 := Tryf.func15.trans (congrArg some (by kernel_rfl))
  f261 := Tryf.func20.trans (congrArg some (by kernel_rfl))
  f311 := Tryf.func24.trans (congrArg some (by kernel_rfl))
  f312 := Tryf.func25.trans (congrArg some (by kernel_rfl))
  t0 := Tryf.underlying0
  a0 := Tryf.isAgg0
  z0 := Tryf.sizeOf0
  v0 := Tryf.zeroValue0
  t3 := Tryf.underlying3
  a3 := Tryf.isAgg3
  z3 := Tryf.sizeOf3
  v3 := Tryf.zeroValue3
  t4 := Tryf.underlying4
  a4 := Tryf.isAgg4
  z4 := Tryf.sizeOf4
  v4 := Tryf.zeroValue4
  t21 := Tryf.underlying21
  a21 := Tryf.isAgg21
  z21 := Tryf.sizeOf21
  v21 := Tryf.zeroValue21
  t46 := Tryf.underlying58
  a46 := Tryf.isAgg58
  z46 := Tryf.sizeOf58
  v46 := Tryf.zeroValue58
  t49 := Tryf.underlying50
  a49 := Tryf.isAgg50
  z49 := Tryf.sizeOf50
  v49 := Tryf.zeroValue50
  t51 := Tryf.underlying41
  a51 := Tryf.isAgg41
  z51 := Tryf.sizeOf41
  v51 := Tryf.zeroValue41
  t141 := Tryf.underlying37
  a141 := Tryf.isAgg37
  z141 := Tryf.sizeOf37
  v141 := Tryf.zeroValue37
  t193 := Tryf.underlying46
  a193 := Tryf.isAgg46
  z193 := Tryf.sizeOf46
  v193 := Tryf.zeroValue46
  t194 := Tryf.underlying47
  a194 := Tryf.isAgg47
  z194 := Tryf.sizeOf47
  v194 := Tryf.zeroValue47
  t196 := Tryf.underlying49
  a196 := Tryf.isAgg49
  z196 := Tryf.sizeOf49
  v196 := Tryf.zeroValue49
  t198 := Tryf.underlying52
  a198 := Tryf.isAgg52
  z198 := Tryf.sizeOf52
  v198 := Tryf.zeroValue52
  t201 := Tryf.underlying55
  a201 := Tryf.isAgg55
  z201 := Tryf.sizeOf55
  v201 := Tryf.zeroValue55
  t226 := Tryf.underlying62
  a226 := Tryf.isAgg62
  z226 := Tryf.sizeOf62
  v226 := Tryf.zeroValue62
  t227 := Tryf.underlying63
  a227 := Tryf.isAgg63
  z227 := Tryf.sizeOf63
  v227 := Tryf.zeroValue63
  g6 := by kernel_rfl }
open Go.RowKit Go.Lib in
theorem Tryf.unicode_IsSpace (r : Int) (w : World) (h0 : 0 ≤ r) (h : r ≤ 255) :
    Calls Tryf.prog 15 #[.int .i32 r] w fun e w' => e = .returned (.bool (Lib.isSpaceL r)) ∧ w' = w := Any.unicode_IsSpace Tryf.lays199 r w h0 h
def Tryf.lays197_ren : Go.Shelf.Ren := ⟨fun | 197 => 17 | 260 => 22 | n => n, fun | 9 => 9 | 21 => 21 | 3 => 3 | 4 => 4 | 5 => 5 | 105 => 33 | 119 => 57 | 0 => 0 | 46 => 58 | 139 => 61 | 138 => 60 | n => n, fun | 3 => 3 | 4 => 4 | n => n⟩
theorem Tryf.lays197 : Go.Proofs.Lays.n197 Tryf.prog Tryf.lays197_ren := {
  mixed := by kernel_rfl
  f197 := Tryf.func17.trans (congrArg some (by kernel_rfl))
  f260 := Tryf.func22.trans (congrArg some (by kernel_rfl))
  t0 := Tryf.underlying0
  a0 := Tryf.isAgg0
  z0 := Tryf.sizeOf0
  v0 := Tryf.zeroValue0
  t3 := Tryf.underlying3
  a3 := Tryf.isAgg3
  z3 := Tryf.sizeOf3
  v3 := Tryf.zeroValue3
  t4 := Tryf.underlying4
  a4 := Tryf.isAgg4
  z4 := Tryf.sizeOf4
  v4 := Tryf.zeroValue4
  t5 := Tryf.underlying5
  a5 := Tryf.isAgg5
  z5 := Tryf.sizeOf5
  v5 := Tryf.zeroValue5
  t9 := Tryf.underlying9
  a9 := Tryf.isAgg9
  z9 := Tryf.sizeOf9
  v9 := Tryf.zeroValue9
  t21 := Tryf.underlying21
  a21 := Tryf.isAgg21
  z21 := Tryf.sizeOf21
  v21 := Tryf.zeroValue21
  t46 := Tryf.underlying58
  a46 := Tryf.isAgg58
  z46 := Tryf.sizeOf58
  v46 := Tryf.zeroValue58
  t105 := Tryf.underlying33
  a105 := Tryf.isAgg33
  z105 := Tryf.sizeOf33
  v105 := Tryf.zeroValue33
  t119 := Tryf.underlying57
  a119 := Tryf.isAgg57
  z119 := Tryf.sizeOf57
  t138 := Tryf.underlying60
  a138 := Tryf.isAgg60
  z138 := Tryf.sizeOf60
  v138 := Tryf.zeroValue60
  t139 := Tryf.underlying61
  a139 := Tryf.isAgg61
  z139 := Tryf.sizeOf61
  v139 := Tryf.zeroValue61
  g3 := by kernel_rfl
  g4 := by kernel_rfl }
open Go.RowKit Go.Lib in

theorem Tryf.utf8_DecodeRuneInString_ascii (s : ByteArray) (x : UInt8) (w : World) (h0 : s.data.toList[0]? = some x) (hx : x.toNat < 128) :
    Calls Tryf.prog 17 #[.string s] w fun e w' => e = .returned (.tuple #[.int .i32 x.toNat, .int .i64 1]) ∧ w' = w := Any.utf8_DecodeRuneInString_ascii Tryf.lays197 s x w h0 hx
def Tryf.lays260_ren : Go.Shelf.Ren := ⟨fun | 260 => 22 | n => n, fun | 9 => 9 | 21 => 21 | 3 => 3 | 4 => 4 | 5 => 5 | 119 => 57 | 0 => 0 | 46 => 58 | 139 => 61 | 138 => 60 | n => n, fun | 3 => 3 | 4 => 4 | n => n⟩
theorem Tryf.lays260 : Go.Proofs.Lays.n260 Tryf.prog Tryf.lays260_ren := {
  mixed := by kernel_rfl
  f260 := Tryf.func22.trans (congrArg some (by kernel_rfl))
  t0 := Tryf.underlying0
  a0 := Tryf.isAgg0
  z0 := Tryf.sizeOf0
  v0 := Tryf.zeroValue0
  t3 := Tryf.underlying3
  a3 := Tryf.isAgg3
  z3 := Tryf.sizeOf3
  v3 := Tryf.zeroValue3
  t4 := Tryf.underlying4
  a4 := Tryf.isAgg4
  z4 := Tryf.sizeOf4
  v4 := Tryf.zeroValue4
  t5 := Tryf.underlying5
  a5 := Tryf.isAgg5
  z5 := Tryf.sizeOf5
  v5 := Tryf.zeroValue5
  t9 := Tryf.underlying9
  a9 := Tryf.isAgg9
  z9 := Tryf.sizeOf9
  v9 := Tryf.zeroValue9
  t21 := Tryf.underlying21
  a21 := Tryf.isAgg21
  z21 := Tryf.sizeOf21
  v21 := Tryf.zeroValue21
  t46 := Tryf.underlying58
  a46 := Tryf.isAgg58
  z46 := Tryf.sizeOf58
  v46 := Tryf.zeroValue58
  t119 := Tryf.underlying57
  a119 := Tryf.isAgg57
  z119 := Tryf.sizeOf57
  t138 := Tryf.underlying60
  a138 := Tryf.isAgg60
  z138 := Tryf.sizeOf60
  v138 := Tryf.zeroValue60
  t139 := Tryf.underlying61
  a139 := Tryf.isAgg61
  z139 := Tryf.sizeOf61
  v139 := Tryf.zeroValue61
  g3 := by kernel_rfl
  g4 := by kernel_rfl }
open Go.RowKit Go.Lib in
theorem Tryf.utf8_decodeRuneInStringSlow (s : ByteArray) (w : World) (hT : Lib.Utf8Tabs 3 4 w) :
    Calls Tryf.prog 22 #[.string s] w fun e w' => e = .returned (.tuple #[.int .i32 (Lib.decodeGo s).1, .int .i64 (Lib.decodeGo s).2]) ∧ Below w.heap.size w w' := Any.utf8_decodeRuneInStringSlow Tryf.lays260 s w hT
open Go.RowKit Go.Lib in

theorem Tryf.utf8_DecodeRuneInString (s : ByteArray) (w : World) (hT : Lib.Utf8Tabs 3 4 w) :
    Calls Tryf.prog 17 #[.string s] w fun e w' => e = .returned (.tuple #[.int .i32 (Lib.decodeGo s).1, .int .i64 (Lib.decodeGo s).2]) ∧ Below w.heap.size w w' := Any.utf8_DecodeRuneInString Tryf.lays197 s w hT
def Tryf.lays311_ren : Go.Shelf.Ren := ⟨fun | 311 => 24 | n => n, fun | 193 => 46 | 49 => 50 | 4 => 4 | 3 => 3 | 0 => 0 | 226 => 62 | 198 => 52 | 46 => 58 | n => n, fun | n => n⟩
theorem Tryf.lays311 : Go.Proofs.Lays.n311 Tryf.prog Tryf.lays311_ren := {
  mixed := by kernel_rfl
  f311 := Tryf.func24.trans (congrArg some (by kernel_rfl))
  t0 := Tryf.underlying0
  a0 := Tryf.isAgg0
  z0 := Tryf.sizeOf0
  v0 := Tryf.zeroValue0
  t3 := Tryf.underlying3
  a3 := Tryf.isAgg3
  z3 := Tryf.sizeOf3
  v3 := Tryf.zeroValue3
  t4 := Tryf.underlying4
  a4 := Tryf.isAgg4
  z4 := Tryf.sizeOf4
  v4 := Tryf.zeroValue4
  t46 := Tryf.underlying58
  a46 := Tryf.isAgg58
  z46 := Tryf.sizeOf58
  v46 := Tryf.zeroValue58
  t49 := Tryf.underlying50
  a49 := Tryf.isAgg50
  z49 := Tryf.sizeOf50
  v49 := Tryf.zeroValue50
  t193 := Tryf.underlying46
  a193 := Tryf.isAgg46
  z193 := Tryf.sizeOf46
  v193 := Tryf.zeroValue46
  t198 := Tryf.underlying52
  a198 := Tryf.isAgg52
  z198 := Tryf.sizeOf52
  v198 := Tryf.zeroValue52
  t226 := Tryf.underlying62
  a226 := Tryf.isAgg62
  z226 := Tryf.sizeOf62
  v226 := Tryf.zeroValue62 }
open Go.RowKit Go.Lib in
theorem Tryf.unicode_is16_white (R oR : Nat) (z : Nat) (w : World) (hz : z < 65536) (hz0 : 255 < z) (c6 : w.cell? ⟨R, oR + 6, none⟩ = some (.int .u16 160)) (c7 : w.cell? ⟨R, oR + 7, none⟩ = some (.int .u16 5760)) (c8 : w.cell? ⟨R, oR + 8, none⟩ = some (.int .u16 5600)) (c9 : w.cell? ⟨R, oR + 9, none⟩ = some (.int .u16 8192)) (c10 : w.cell? ⟨R, oR + 10, none⟩ = some (.int .u16 8202)) (c11 : w.cell? ⟨R, oR + 11, none⟩ = some (.int .u16 1)) (c12 : w.cell? ⟨R, oR + 12, none⟩ = some (.int .u16 8232)) (c13 : w.cell? ⟨R, oR + 13, none⟩ = some (.int .u16 8233)) (c14 : w.cell? ⟨R, oR + 14, none⟩ = some (.int .u16 1)) (c15 : w.cell? ⟨R, oR + 15, none⟩ = some (.int .u16 8239)) (c16 : w.cell? ⟨R, oR + 16, none⟩ = some (.int .u16 8287)) (c17 : w.cell? ⟨R, oR + 17, none⟩ = some (.int .u16 48)) (c18 : w.cell? ⟨R, oR + 18, none⟩ = some (.int .u16 12288)) (c19 : w.cell? ⟨R, oR + 19, none⟩ = some (.int .u16 12288)) (c20 : w.cell? ⟨R, oR + 20, none⟩ = some (.int .u16 1)) :
    Calls Tryf.prog 24 #[.slice (some ⟨R, oR + 6, none⟩) 5 5, .int .u16 z] w fun e w' => e = .returned (.bool (Lib.isSpaceR z)) ∧ Below w.heap.size w w' := Any.unicode_is16_white Tryf.lays311 R oR z w hz hz0 c6 c7 c8 c9 c10 c11 c12 c13 c14 c15 c16 c17 c18 c19 c20
def Tryf.lays261_ren : Go.Shelf.Ren := ⟨fun | 261 => 20 | 311 => 24 | 312 => 25 | n => n, fun | 141 => 37 | 21 => 21 | 4 => 4 | 0 => 0 | 196 => 49 | 193 => 46 | 3 => 3 | 51 => 41 | 198 => 52 | 49 => 50 | 194 => 47 | 201 => 55 | 226 => 62 | 46 => 58 | 227 => 63 | n => n, fun | n => n⟩
theorem Tryf.lays261 : Go.Proofs.Lays.n261 Tryf.prog Tryf.lays261_ren := {
  mixed := by kernel_rfl
  f261 := Tryf.func20.trans (congrArg some (by kernel_rfl))
  f311 := Tryf.func24.trans (congrArg some (by kernel_rfl))
  f312 := Tryf.func25.trans (congrArg some (by kernel_rfl))
  t0 := Tryf.underlying0
  a0 := Tryf.isAgg0
  z0 := Tryf.sizeOf0
  v0 := Tryf.zeroValue0
  t3 := Tryf.underlying3
  a3 := Tryf.isAgg3
  z3 := Tryf.sizeOf3
  v3 := Tryf.zeroValue3
  t4 := Tryf.underlying4
  a4 := Tryf.isAgg4
  z4 := Tryf.sizeOf4
  v4 := Tryf.zeroValue4
  t21 := Tryf.underlying21
  a21 := Tryf.isAgg21
  z21 := Tryf.sizeOf21
  v21 := Tryf.zeroValue21
  t46 := Tryf.underlying58
  a46 := Tryf.isAgg58
  z46 := Tryf.sizeOf58
  v46 := Tryf.zeroValue58
  t49 := Tryf.underlying50
  a49 := Tryf.isAgg50
  z49 := Tryf.sizeOf50
  v49 := Tryf.zeroValue50
  t51 := Tryf.underlying41
  a51 := Tryf.isAgg41
  z51 := Tryf.sizeOf41
  v51 := Tryf.zeroValue41
  t141 := Tryf.underlying37
  a141 := Tryf.isAgg37
  z141 := Tryf.sizeOf37
  v141 := Tryf.zeroValue37
  t193 := Tryf.underlying46
  a193 := Tryf.isAgg46
  z193 := Tryf.sizeOf46
  v193 := Tryf.zeroValue46
  t194 := Tryf.underlying47
  a194 := Tryf.isAgg47
  z194 := Tryf.sizeOf47
  v194 := Tryf.zeroValue47
  t196 := Tryf.underlying49
  a196 := Tryf.isAgg49
  z196 := Tryf.sizeOf49
  v196 := Tryf.zeroValue49
  t198 := Tryf.underlying52
  a198 := Tryf.isAgg52
  z198 := Tryf.sizeOf52
  v198 := Tryf.zeroValue52
  t201 := Tryf.underlying55
  a201 := Tryf.isAgg55
  z201 := Tryf.sizeOf55
  v201 := Tryf.zeroValue55
  t226 := Tryf.underlying62
  a226 := Tryf.isAgg62
  z226 := Tryf.sizeOf62
  v226 := Tryf.zeroValue62
  t227 := Tryf.underlying63
  a227 := Tryf.isAgg63
  z227 := Tryf.sizeOf63
  v227 := Tryf.zeroValue63 }
open Go.RowKit Go.Lib in

theorem Tryf.unicode_isExcludingLatin_white (T oT R oR : Nat) (r : Int) (w : World) (hlo : -2147483648 ≤ r) (hhi : r ≤ 2147483647) (hr : r < 0 ∨ 255 < r) (h2 : w.cell? ⟨T, oT, none⟩ = some (.slice (some ⟨R, oR, none⟩) 7 7)) (h3 : w.cell? ⟨T, oT + 1, none⟩ = some (.slice none 0 0)) (h4 : w.cell? ⟨T, oT + 2, none⟩ = some (.int .i64 2)) (h5 : ∀ i, i < 21 → w.cell? ⟨R, oR + i, none⟩ = some (.int .u16 (whiteT.getD i 0))) :
    Calls Tryf.prog 20 #[.pointer (some ⟨T, oT, none⟩), .int .i32 r] w fun e w' => e = .returned (.bool (Lib.isSpaceZ r)) ∧ Below w.heap.size w w' := Any.unicode_isExcludingLatin_white Tryf.lays261 T oT R oR r w hlo hhi hr h2 h3 h4 h5
open Go.RowKit Go.Lib in

theorem Tryf.unicode_IsSpace_any (r : Int) (w : World) (hlo : -2147483648 ≤ r) (hhi : r ≤ 2147483647) (hW : Lib.WhiteTab 2 w) :
    Calls Tryf.prog 15 #[.int .i32 r] w fun e w' => e = .returned (.bool (Lib.isSpaceZ r)) ∧ Below w.heap.size w w' := Any.unicode_IsSpace_any Tryf.lays199 r w hlo hhi hW
open Go.RowKit Go.Lib in
theorem Tryf.unicode_is16_any (T : Array Rg) (R oR cap : Nat) (z : Nat) (w : World) (hz : z < 65536) (hT : RgTab .u16 R oR T w) (hok : RgOk 65536 T) (hn : T.size ≤ 1000000000) :
    Calls Tryf.prog 24 #[.slice (some ⟨R, oR, none⟩) T.size cap, .int .u16 z] w fun e w' => e = .returned (.bool (is16Go T z)) ∧ ∃ q, w' = w.drewN q := Any.unicode_is16_any Tryf.lays311 T R oR cap z w hz hT hok hn
def Tryf.lays312_ren : Go.Shelf.Ren := ⟨fun | 312 => 25 | n => n, fun | 194 => 47 | 51 => 41 | 4 => 4 | 3 => 3 | 0 => 0 | 227 => 63 | 201 => 55 | 46 => 58 | n => n, fun | n => n⟩
theorem Tryf.lays312 : Go.Proofs.Lays.n312 Tryf.prog Tryf.lays312_ren := {
  mixed := by kernel_rfl
  f312 := Tryf.func25.trans (congrArg some (by kernel_rfl))
  t0 := Tryf.underlying0
  a0 := Tryf.isAgg0
  z0 := Tryf.sizeOf0
  v0 := Tryf.zeroValue0
  t3 := Tryf.underlying3
  a3 := Tryf.isAgg3
  z3 := Tryf.sizeOf3
  v3 := Tryf.zeroValue3
  t4 := Tryf.underlying4
  a4 := Tryf.isAgg4
  z4 := Tryf.sizeOf4
  v4 := Tryf.zeroValue4
  t46 := Tryf.underlying58
  a46 := Tryf.isAgg58
  z46 := Tryf.sizeOf58
  v46 := Tryf.zeroValue58
  t51 := Tryf.underlying41
  a51 := Tryf.isAgg41
  z51 := Tryf.sizeOf41
  v51 := Tryf.zeroValue41
  t194 := Tryf.underlying47
  a194 := Tryf.isAgg47
  z194 := Tryf.sizeOf47
  v194 := Tryf.zeroValue47
  t201 := Tryf.underlying55
  a201 := Tryf.isAgg55
  z201 := Tryf.sizeOf55
  v201 := Tryf.zeroValue55
  t227 := Tryf.underlying63
  a227 := Tryf.isAgg63
  z227 := Tryf.sizeOf63
  v227 := Tryf.zeroValue63 }
open Go.RowKit Go.Lib in
theorem Tryf.unicode_is32_any (T : Array Rg) (R oR cap : Nat) (z : Nat) (w : World) (hz : z < 4294967296) (hT : RgTab .u32 R oR T w) (hok : RgOk 4294967296 T) (hn : T.size ≤ 1000000000) :
    Calls Tryf.prog 25 #[.slice (some ⟨R, oR, none⟩) T.size cap, .int .u32 z] w fun e w' => e = .returned (.bool (is32Go T z)) ∧ Below w.heap.size w w' := Any.unicode_is32_any Tryf.lays312 T R oR cap z w hz hT hok hn
open Go.RowKit Go.Lib in
theorem Tryf.unicode_isExcludingLatin_any (Tb oT : Nat) (T : RTab) (r : Int) (w : World) (hlo : -2147483648 ≤ r) (hhi : r ≤ 2147483647) (hA : RTabAt Tb oT T w) (hok : RTabOk T) :
    Calls Tryf.prog 20 #[.pointer (some ⟨Tb, oT, none⟩), .int .i32 r] w fun e w' => e = .returned (.bool (exclGo T r)) ∧ Below w.heap.size w w' := Any.unicode_isExcludingLatin_any Tryf.lays261 Tb oT T r w hlo hhi hA hok
open Go.RowKit Go.Lib in
theorem Tryf.strings_indexFunc_grows (g : Nat) (lb : Array Value) (eg : ∀ args w, (callFunc g args).run Tryf.prog w = .ok (.enter g args) w) (p : Nat → Bool) (truth : Bool) (s : ByteArray) (w : World) (hp : PredGrows Tryf.prog g lb p w) :
    Calls Tryf.prog 18 #[.string s, .func (.func g) #[] lb, .bool truth] w fun e w' => e = .returned (.int .i64 (Lib.idxFunc p truth s)) ∧ Below w.heap.size w w' := Any.strings_indexFunc_grows Tryf.lays315 g lb eg p truth s w hp
open Go.RowKit Go.Lib in
theorem Tryf.strings_IndexFunc_grows (g : Nat) (lb : Array Value) (eg : ∀ args w, (callFunc g args).run Tryf.prog w = .ok (.enter g args) w) (p : Nat → Bool) (s : ByteArray) (w : World) (hp : PredGrows Tryf.prog g lb p w) :
    Calls Tryf.prog 11 #[.string s, .func (.func g) #[] lb] w fun e w' => e = .returned (.int .i64 (Lib.idxFunc p true s)) ∧ Below w.heap.size w w' := Any.strings_IndexFunc_grows Tryf.laysGw15 g lb eg p s w hp
open Go.RowKit Go.Lib in
theorem Tryf.strings_ContainsFunc_grows (g : Nat) (lb : Array Value) (eg : ∀ args w, (callFunc g args).run Tryf.prog w = .ok (.enter g args) w) (p : Nat → Bool) (s : ByteArray) (w : World) (hp : PredGrows Tryf.prog g lb p w) :
    Calls Tryf.prog 14 #[.string s, .func (.func g) #[] lb] w fun e w' => e = .returned (.bool (decide (0 ≤ Lib.idxFunc p true s))) ∧ Below w.heap.size w w' := Any.strings_ContainsFunc_grows Tryf.laysGw17 g lb eg p s w hp
def Tryf.laysGn14_ren : Go.Shelf.Ren := ⟨fun | 14 => 23 | 25 => 24 | 26 => 25 | n => n, fun | 22 => 37 | 21 => 21 | 4 => 4 | 0 => 0 | 31 => 49 | 28 => 46 | 3 => 3 | 32 => 41 | 35 => 52 | 33 => 50 | 29 => 47 | 38 => 55 | 41 => 62 | 42 => 58 | 43 => 63 | n => n, fun | n => n⟩
theorem Tryf.laysGn14 : Go.Proofs.LaysGn.n14 Tryf.prog Tryf.laysGn14_ren := {
  mixed := by kernel_rfl
  f14 := Tryf.func23.trans (congrArg some (by kernel_rfl))
  f25 := Tryf.func24.trans (congrArg some (by kernel_rfl))
  f26 := Tryf.func25.trans (congrArg some (by kernel_rfl))
  t0 := Tryf.underlying0
  a0 := Tryf.isAgg0
  z0 := Tryf.sizeOf0
  v0 := Tryf.zeroValue0
  i0 := by kernel_rfl
  t3 := Tryf.underlying3
  a3 := Tryf.isAgg3
  z3 := Tryf.sizeOf3
  v3 := Tryf.zeroValue3
  i3 := by kernel_rfl
  t4 := Tryf.underlying4
  a4 := Tryf.isAgg4
  z4 := Tryf.sizeOf4
  v4 := Tryf.zeroValue4
  i4 := by kernel_rfl
  t21 := Tryf.underlying21
  a21 := Tryf.isAgg21
  z21 := Tryf.sizeOf21
  v21 := Tryf.zeroValue21
  i21 := by kernel_rfl
  t22 := Tryf.underlying37
  a22 := Tryf.isAgg37
  z22 := Tryf.sizeOf37
  v22 := Tryf.zeroValue37
  i22 := by kernel_rfl
  t28 := Tryf.underlying46
  a28 := Tryf.isAgg46
  z28 := Tryf.sizeOf46
  v28 := Tryf.zeroValue46
  i28 := by kernel_rfl
  t29 := Tryf.underlying47
  a29 := Tryf.isAgg47
  z29 := Tryf.sizeOf47
  v29 := Tryf.zeroValue47
  i29 := by kernel_rfl
  t31 := Tryf.underlying49
  a31 := Tryf.isAgg49
  z31 := Tryf.sizeOf49
  v31 := Tryf.zeroValue49
  i31 := by kernel_rfl
  t32 := Tryf.underlying41
  a32 := Tryf.isAgg41
  z32 := Tryf.sizeOf41
  v32 := Tryf.zeroValue41
  i32 := by kernel_rfl
  t33 := Tryf.underlying50
  a33 := Tryf.isAgg50
  z33 := Tryf.sizeOf50
  v33 := Tryf.zeroValue50
  i33 := by kernel_rfl
  t35 := Tryf.underlying52
  a35 := Tryf.isAgg52
  z35 := Tryf.sizeOf52
  v35 := Tryf.zeroValue52
  i35 := by kernel_rfl
  t38 := Tryf.underlying55
  a38 := Tryf.isAgg55
  z38 := Tryf.sizeOf55
  v38 := Tryf.zeroValue55
  i38 := by kernel_rfl
  t41 := Tryf.underlying62
  a41 := Tryf.isAgg62
  z41 := Tryf.sizeOf62
  v41 := Tryf.zeroValue62
  i41 := by kernel_rfl
  t42 := Tryf.underlying58
  a42 := Tryf.isAgg58
  z42 := Tryf.sizeOf58
  v42 := Tryf.zeroValue58
  i42 := by kernel_rfl
  t43 := Tryf.underlying63
  a43 := Tryf.isAgg63
  z43 := Tryf.sizeOf63
  v43 := Tryf.zeroValue63
  i43 := by kernel_rfl }
open Go.RowKit Go.Lib in

theorem Tryf.unicode_Is_any (Tb oT : Nat) (T : RTab) (r : Int) (w : World) (hlo : -2147483648 ≤ r) (hhi : r ≤ 2147483647) (hA : RTabAt Tb oT T w) (hok : RTabOk T) :
    Calls Tryf.prog 23 #[.pointer (some ⟨Tb, oT, none⟩), .int .i32 r] w fun e w' => e = .returned (.bool (isGo T r)) ∧ Below w.heap.size w w' := Any.unicode_Is_any Tryf.laysGn14 Tb oT T r w hlo hhi hA hok
def Tryf.laysGn15_ren : Go.Shelf.Ren := ⟨fun | 15 => 19 | 14 => 23 | 25 => 24 | 26 => 25 | n => n, fun | 21 => 21 | 24 => 45 | 4 => 4 | 3 => 3 | 0 => 0 | 22 => 37 | 31 => 49 | 28 => 46 | 32 => 41 | 35 => 52 | 33 => 50 | 29 => 47 | 38 => 55 | 41 => 62 | 42 => 58 | 43 => 63 | n => n, fun | n => n⟩
theorem Tryf.laysGn15 : Go.Proofs.LaysGn.n15 Tryf.prog Tryf.laysGn15_ren := {
  mixed := by kernel_rfl
  f14 := Tryf.func23.trans (congrArg some (by kernel_rfl))
  f15 := Tryf.func19.trans (congrArg some (by kernel_rfl))
  f25 := Tryf.func24.trans (congrArg some (by kernel_rfl))
  f26 := Tryf.func25.trans (congrArg some (by kernel_rfl))
  t0 := Tryf.underlying0
  a0 := Tryf.isAgg0
  z0 := Tryf.sizeOf0
  v0 := Tryf.zeroValue0
  i0 := by kernel_rfl
  t3 := Tryf.underlying3
  a3 := Tryf.isAgg3
  z3 := Tryf.sizeOf3
  v3 := Tryf.zeroValue3
  i3 := by kernel_rfl
  t4 := Tryf.underlying4
  a4 := Tryf.isAgg4
  z4 := Tryf.sizeOf4
  v4 := Tryf.zeroValue4
  i4 := by kernel_rfl
  t21 := Tryf.underlying21
  a21 := Tryf.isAgg21
  z21 := Tryf.sizeOf21
  v21 := Tryf.zeroValue21
  i21 := by kernel_rfl
  t22 := Tryf.underlying37
  a22 := Tryf.isAgg37
  z22 := Tryf.sizeOf37
  v22 := Tryf.zeroValue37
  i22 := by kernel_rfl
  t24 := Tryf.underlying45
  a24 := Tryf.isAgg45
  z24 := Tryf.sizeOf45
  v24 := Tryf.zeroValue45
  i24 := by kernel_rfl
  t28 := Tryf.underlying46
  a28 := Tryf.isAgg46
  z28 := Tryf.sizeOf46
  v28 := Tryf.zeroValue46
  i28 := by kernel_rfl
  t29 := Tryf.underlying47
  a29 := Tryf.isAgg47
  z29 := Tryf.sizeOf47
  v29 := Tryf.zeroValue47
  i29 := by kernel_rfl
  t31 := Tryf.underlying49
  a31 := Tryf.isAgg49
  z31 := Tryf.sizeOf49
  v31 := Tryf.zeroValue49
  i31 := by kernel_rfl
  t32 := Tryf.underlying41
  a32 := Tryf.isAgg41
  z32 := Tryf.sizeOf41
  v32 := Tryf.zeroValue41
  i32 := by kernel_rfl
  t33 := Tryf.underlying50
  a33 := Tryf.isAgg50
  z33 := Tryf.sizeOf50
  v33 := Tryf.zeroValue50
  i33 := by kernel_rfl
  t35 := Tryf.underlying52
  a35 := Tryf.isAgg52
  z35 := Tryf.sizeOf52
  v35 := Tryf.zeroValue52
  i35 := by kernel_rfl
  t38 := Tryf.underlying55
  a38 := Tryf.isAgg55
  z38 := Tryf.sizeOf55
  v38 := Tryf.zeroValue55
  i38 := by kernel_rfl
  t41 := Tryf.underlying62
  a41 := Tryf.isAgg62
  z41 := Tryf.sizeOf62
  v41 := Tryf.zeroValue62
  i41 := by kernel_rfl
  t42 := Tryf.underlying58
  a42 := Tryf.isAgg58
  z42 := Tryf.sizeOf58
  v42 := Tryf.zeroValue58
  i42 := by kernel_rfl
  t43 := Tryf.underlying63
  a43 := Tryf.isAgg63
  z43 := Tryf.sizeOf63
  v43 := Tryf.zeroValue63
  i43 := by kernel_rfl }
open Go.RowKit Go.Lib in

theorem Tryf.unicode_In_any (Ts : List RTab) (R o cap : Nat) (r : Int) (w : World) (hlo : -2147483648 ≤ r) (hhi : r ≤ 2147483647) (hR : RList R o Ts w) (hok : ∀ T ∈ Ts, RTabOk T) (hn : Ts.length ≤ 1000000000) :
    Calls Tryf.prog 19 #[.int .i32 r, .slice (some ⟨R, o, none⟩) Ts.length cap] w fun e w' => e = .returned (.bool (Ts.any (isGo · r))) ∧ Below w.heap.size w w' := Any.unicode_In_any Tryf.laysGn15 Ts R o cap r w hlo hhi hR hok hn
end Go.Proofs
