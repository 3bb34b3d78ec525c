import Derived.Shelf.Strings.Builder1
import Derived.Shelf.Strings.Builder2
import Derived.Shelf.Strings.OnBuilder
import Derived.Shelf.Small.Utf8
import Derived.Shelf.Small.Strs
import Derived.Shelf.Strings.BuilderF
import Derived.Shelf.Strings.BuilderK
import Derived.Shelf.Strings.BuilderRune
import Derived.Shelf.Strings.Search1
import Derived.Shelf.Strings.Prefix
import Derived.Shelf.Unicode.Latin
import Derived.Shelf.Strings.Runes
import Derived.Shelf.Unicode.DecodeSlow
import Derived.Shelf.Unicode.DecodeAny
import Derived.Shelf.Unicode.CaseLookup
import Derived.Shelf.Unicode.CaseConvert
import Derived.Shelf.Unicode.CaseTo
import Derived.Shelf.Unicode.CaseLaid
import Derived.Shelf.Strings.MapAny
import Derived.Shelf.Strings.CaseAny
import Derived.Test.Qxb6608672aFmtProg
namespace Go.Proofs
open Go.Shelf
def Tryf.lays169_ren : Go.Shelf.Ren := ⟨fun | 169 => 36 | n => n, fun | 70 => 68 | 9 => 9 | 0 => 0 | 72 => 71 | 37 => 69 | 127 => 83 | 3 => 3 | 5 => 5 | n => n, fun | n => n⟩
theorem Tryf.lays169 : Go.Proofs.Lays.n169 Tryf.prog Tryf.lays169_ren := {
  mixed := by kernel_rfl
  f169 := Tryf.func36.trans (congrArg some (by kernel_rfl))
  t0 := Tryf.underlying0
  a0 := Tryf.isAgg0
  z0 := Tryf.sizeOf0
  v0 := Tryf.zeroValue0
  t3 := Tryf.underlying3
  a3 := Tryf.isAgg3
  z3 := Tryf.sizeOf3
  v3 := Tryf.zeroValue3
  t9 := Tryf.underlying9
  a9 := Tryf.isAgg9
  z9 := Tryf.sizeOf9
  v9 := Tryf.zeroValue9
  t37 := Tryf.underlying69
  a37 := Tryf.isAgg69
  z37 := Tryf.sizeOf69
  v37 := Tryf.zeroValue69
  t70 := Tryf.underlying68
  a70 := Tryf.isAgg68
  z70 := Tryf.sizeOf68
  v70 := Tryf.zeroValue68
  t72 := Tryf.underlying71
  a72 := Tryf.isAgg71
  z72 := Tryf.sizeOf71
  v72 := Tryf.zeroValue71
  t127 := Tryf.underlying83
  a127 := Tryf.isAgg83
  z127 := Tryf.sizeOf83
  v127 := Tryf.zeroValue83 }
theorem Tryf.Builder_Extra_169 : Builder.Extra Tryf.prog Tryf.lays169_ren := {
  sizeBuilder := by kernel_rfl
  liesBuilder := by kernel_rfl
  t5 := Tryf.underlying5
  a5 := Tryf.isAgg5
  z5 := Tryf.sizeOf5
  v5 := Tryf.zeroValue5
  infoByte := by kernel_rfl
  cellsByte := by kernel_rfl
  sizeByte := by kernel_rfl
  neB5 := by decide }
open Go.RowKit in

theorem Tryf.Builder_String (B b : Nat) (l : List UInt8) (w : World) (h : Lib.IsBuilder 71 5 B b (Lib.byteCells l) w) (h0 : l ≠ []) :
    Calls Tryf.prog 36 #[.pointer (some ⟨b, 0, none⟩)] w fun e w' => e = .returned (.string ⟨l.toArray⟩) ∧ Below B w w' := Any.Builder_String Tryf.lays169 Tryf.Builder_Extra_169 B b l w h h0
open Go.RowKit in

theorem Tryf.Builder_String_empty (B b : Nat) (w : World) (h : Lib.IsBuilder 71 5 B b [] w) (hBw : B ≤ w.heap.size) :
    Calls Tryf.prog 36 #[.pointer (some ⟨b, 0, none⟩)] w fun e w' => e = .returned (.string ⟨#[]⟩) ∧ Below B w w' := Any.Builder_String_empty Tryf.lays169 Tryf.Builder_Extra_169 B b w h hBw
open Go.RowKit in

theorem Tryf.Builder_String_any (B b : Nat) (l : List UInt8) (w : World) (h : Lib.IsBuilder 71 5 B b (Lib.byteCells l) w) (hBw : B ≤ w.heap.size) :
    Calls Tryf.prog 36 #[.pointer (some ⟨b, 0, none⟩)] w fun e w' => e = .returned (.string ⟨l.toArray⟩) ∧ Below B w w' := Any.Builder_String_any Tryf.lays169 Tryf.Builder_Extra_169 B b l w h hBw
def Tryf.lays241_ren : Go.Shelf.Ren := ⟨fun | 241 => 46 | 277 => 52 | n => n, fun | 70 => 68 | 3 => 3 | 0 => 0 | 72 => 71 | 37 => 69 | 5 => 5 | n => n, fun | n => n⟩
theorem Tryf.lays241 : Go.Proofs.Lays.n241 Tryf.prog Tryf.lays241_ren := {
  mixed := by kernel_rfl
  f241 := Tryf.func46.trans (congrArg some (by kernel_rfl))
  f277 := Tryf.func52.trans (congrArg some (by kernel_rfl))
  t0 := Tryf.underlying0
  a0 := Tryf.isAgg0
  z0 := Tryf.sizeOf0
  v0 := Tryf.zeroValue0
  t3 := Tryf.underlying3
  a3 := Tryf.isAgg3
  z3 := Tryf.sizeOf3
  v3 := Tryf.zeroValue3
  t37 := Tryf.underlying69
  a37 := Tryf.isAgg69
  z37 := Tryf.sizeOf69
  v37 := Tryf.zeroValue69
  t70 := Tryf.underlying68
  a70 := Tryf.isAgg68
  z70 := Tryf.sizeOf68
  v70 := Tryf.zeroValue68
  t72 := Tryf.underlying71
  a72 := Tryf.isAgg71
  z72 := Tryf.sizeOf71
  v72 := Tryf.zeroValue71 }
theorem Tryf.Builder_Extra_241 : Builder.Extra Tryf.prog Tryf.lays241_ren := {
  sizeBuilder := by kernel_rfl
  liesBuilder := by kernel_rfl
  t5 := Tryf.underlying5
  a5 := Tryf.isAgg5
  z5 := Tryf.sizeOf5
  v5 := Tryf.zeroValue5
  infoByte := by kernel_rfl
  cellsByte := by kernel_rfl
  sizeByte := by kernel_rfl
  neB5 := by decide }
open Go.RowKit in

theorem Tryf.Builder_grow_fresh (B b n : Nat) (w : World) (hB : B ≤ b) (hbk : w.heap[b]? = some (.cells #[.pointer (some ⟨b, 0, none⟩), .slice none 0 0] 71 (0, 0))) (hBw : B ≤ w.heap.size) (hn : n ≤ 281474976710656) :
    Calls Tryf.prog 46 #[.pointer (some ⟨b, 0, none⟩), .int .i64 n] w fun e w' => e = .returned (.tuple #[]) ∧ (Lib.BuilderAt 71 5 B b (.pointer (some ⟨b, 0, none⟩)) [] w' ∧ Below B w w') := Any.Builder_grow_fresh Tryf.lays241 Tryf.Builder_Extra_241 B b n w hB hbk hBw hn
def Tryf.lays165_ren : Go.Shelf.Ren := ⟨fun | 165 => 33 | 240 => 45 | 241 => 46 | 276 => 51 | 277 => 52 | n => n, fun | 70 => 68 | 3 => 3 | 0 => 0 | 4 => 4 | 9 => 9 | 20 => 20 | 72 => 71 | 37 => 69 | 164 => 92 | 5 => 5 | n => n, fun | n => n⟩
theorem Tryf.lays165 : Go.Proofs.Lays.n165 Tryf.prog Tryf.lays165_ren := {
  mixed := by kernel_rfl
  f165 := Tryf.func33.trans (congrArg some (by kernel_rfl))
  f240 := Tryf.func45.trans (congrArg some (by kernel_rfl))
  f241 := Tryf.func46.trans (congrArg some (by kernel_rfl))
  f276 := Tryf.func51.trans (congrArg some (by kernel_rfl))
  f277 := Tryf.func52.trans (congrArg some (by kernel_rfl))
  t0 := Tryf.underlying0
  a0 := Tryf.isAgg0
  z0 := Tryf.sizeOf0
  v0 := Tryf.zeroValue0
  t3 := Tryf.underlying3
  a3 := Tryf.isAgg3
  z3 := Tryf.sizeOf3
  v3 := Tryf.zeroValue3
  t4 := Tryf.underlying4
  a4 := Tryf.isAgg4
  z4 := Tryf.sizeOf4
  v4 := Tryf.zeroValue4
  t9 := Tryf.underlying9
  a9 := Tryf.isAgg9
  z9 := Tryf.sizeOf9
  v9 := Tryf.zeroValue9
  t20 := Tryf.underlying20
  a20 := Tryf.isAgg20
  z20 := Tryf.sizeOf20
  v20 := Tryf.zeroValue20
  t37 := Tryf.underlying69
  a37 := Tryf.isAgg69
  z37 := Tryf.sizeOf69
  v37 := Tryf.zeroValue69
  t70 := Tryf.underlying68
  a70 := Tryf.isAgg68
  z70 := Tryf.sizeOf68
  v70 := Tryf.zeroValue68
  t72 := Tryf.underlying71
  a72 := Tryf.isAgg71
  z72 := Tryf.sizeOf71
  v72 := Tryf.zeroValue71
  t164 := Tryf.underlying92
  a164 := Tryf.isAgg92
  z164 := Tryf.sizeOf92
  v164 := Tryf.zeroValue92 }
theorem Tryf.Builder_Extra_165 : Builder.Extra Tryf.prog Tryf.lays165_ren := {
  sizeBuilder := by kernel_rfl
  liesBuilder := by kernel_rfl
  t5 := Tryf.underlying5
  a5 := Tryf.isAgg5
  z5 := Tryf.sizeOf5
  v5 := Tryf.zeroValue5
  infoByte := by kernel_rfl
  cellsByte := by kernel_rfl
  sizeByte := by kernel_rfl
  neB5 := by decide }
open Go.RowKit in

theorem Tryf.Builder_Grow_fresh (B b n : Nat) (w : World) (hB : B ≤ b) (hbk : w.heap[b]? = some (.cells #[.pointer none, .slice none 0 0] 71 (0, 0))) (hBw : B ≤ w.heap.size) (hn : n ≤ 281474976710656) :
    Calls Tryf.prog 33 #[.pointer (some ⟨b, 0, none⟩), .int .i64 n] w fun e w' => e = .returned (.tuple #[]) ∧ (Lib.BuilderAt 71 5 B b (.pointer (some ⟨b, 0, none⟩)) [] w' ∧ Below B w w') := Any.Builder_Grow_fresh Tryf.lays165 Tryf.Builder_Extra_165 B b n w hB hbk hBw hn
def Tryf.lays159_ren : Go.Shelf.Ren := ⟨fun | 159 => 24 | 165 => 33 | 166 => 34 | 167 => 35 | 169 => 36 | 230 => 37 | 204 => 38 | 240 => 45 | 241 => 46 | 197 => 28 | 118 => 47 | 168 => 48 | 270 => 49 | 262 => 50 | 276 => 51 | 277 => 52 | 260 => 39 | 242 => 53 | 313 => 54 | 278 => 55 | 274 => 56 | 275 => 57 | n => n, fun | 9 => 9 | 4 => 4 | 3 => 3 | 5 => 5 | 72 => 71 | 0 => 0 | 76 => 48 | 75 => 36 | 107 => 77 | 70 => 68 | 20 => 20 | 37 => 69 | 127 => 83 | 21 => 21 | 105 => 63 | 164 => 92 | 162 => 98 | 203 => 96 | 119 => 88 | 46 => 81 | 139 => 91 | 138 => 90 | 51 => 99 | 160 => 100 | 208 => 106 | 206 => 104 | 80 => 75 | n => n, fun | 13 => 3 | 3 => 0 | 4 => 1 | n => n⟩
theorem Tryf.lays159 : Go.Proofs.Lays.n159 Tryf.prog Tryf.lays159_ren := {
  mixed := by kernel_rfl
  f118 := Tryf.func47.trans (congrArg some (by kernel_rfl))
  f159 := Tryf.func24.trans (congrArg some (by kernel_rfl))
  f165 := Tryf.func33.trans (congrArg some (by kernel_rfl))
  f166 := Tryf.func34.trans (congrArg some (by kernel_rfl))
  f167 := Tryf.func35.trans (congrArg some (by kernel_rfl))
  f168 := Tryf.func48.trans (congrArg some (by kernel_rfl))
  f169 := Tryf.func36.trans (congrArg some (by kernel_rfl))
  f197 := Tryf.func28.trans (congrArg some (by kernel_rfl))
  f204 := Tryf.func38.trans (congrArg some (by kernel_rfl))
  f230 := Tryf.func37.trans (congrArg some (by kernel_rfl))
  f240 := Tryf.func45.trans (congrArg some (by kernel_rfl))
  f241 := Tryf.func46.trans (congrArg some (by kernel_rfl))
  f242 := Tryf.func53.trans (congrArg some (by kernel_rfl))
  f260 := Tryf.func39.trans (congrArg some (by kernel_rfl))
  f262 := Tryf.func50.trans (congrArg some (by kernel_rfl))
  f270 := Tryf.func49.trans (congrArg some (by kernel_rfl))
  f274 := Tryf.func56.trans (congrArg some (by kernel_rfl))
  f275 := Tryf.func57.trans (congrArg some (by kernel_rfl))
  f276 := Tryf.func51.trans (congrArg some (by kernel_rfl))
  f277 := Tryf.func52.trans (congrArg some (by kernel_rfl))
  f278 := Tryf.func55.trans (congrArg some (by kernel_rfl))
  f313 := Tryf.func54.trans (congrArg some (by kernel_rfl))
  t0 := Tryf.underlying0
  a0 := Tryf.isAgg0
  z0 := Tryf.sizeOf0
  v0 := Tryf.zeroValue0
  t3 := Tryf.underlying3
  a3 := Tryf.isAgg3
  z3 := Tryf.sizeOf3
  v3 := Tryf.zeroValue3
  t4 := Tryf.underlying4
  a4 := Tryf.isAgg4
  z4 := Tryf.sizeOf4
  v4 := Tryf.zeroValue4
  t5 := Tryf.underlying5
  a5 := Tryf.isAgg5
  z5 := Tryf.sizeOf5
  v5 := Tryf.zeroValue5
  t9 := Tryf.underlying9
  a9 := Tryf.isAgg9
  z9 := Tryf.sizeOf9
  v9 := Tryf.zeroValue9
  t20 := Tryf.underlying20
  a20 := Tryf.isAgg20
  z20 := Tryf.sizeOf20
  v20 := Tryf.zeroValue20
  t21 := Tryf.underlying21
  a21 := Tryf.isAgg21
  z21 := Tryf.sizeOf21
  v21 := Tryf.zeroValue21
  t37 := Tryf.underlying69
  a37 := Tryf.isAgg69
  z37 := Tryf.sizeOf69
  v37 := Tryf.zeroValue69
  t46 := Tryf.underlying81
  a46 := Tryf.isAgg81
  z46 := Tryf.sizeOf81
  v46 := Tryf.zeroValue81
  t51 := Tryf.underlying99
  a51 := Tryf.isAgg99
  z51 := Tryf.sizeOf99
  v51 := Tryf.zeroValue99
  t70 := Tryf.underlying68
  a70 := Tryf.isAgg68
  z70 := Tryf.sizeOf68
  v70 := Tryf.zeroValue68
  t72 := Tryf.underlying71
  a72 := Tryf.isAgg71
  z72 := Tryf.sizeOf71
  v72 := Tryf.zeroValue71
  t75 := Tryf.underlying36
  a75 := Tryf.isAgg36
  z75 := Tryf.sizeOf36
  v75 := Tryf.zeroValue36
  t76 := Tryf.underlying48
  a76 := Tryf.isAgg48
  z76 := Tryf.sizeOf48
  v76 := Tryf.zeroValue48
  t105 := Tryf.underlying63
  a105 := Tryf.isAgg63
  z105 := Tryf.sizeOf63
  v105 := Tryf.zeroValue63
  t107 := Tryf.underlying77
  a107 := Tryf.isAgg77
  z107 := Tryf.sizeOf77
  v107 := Tryf.zeroValue77
  t119 := Tryf.underlying88
  a119 := Tryf.isAgg88
  z119 := Tryf.sizeOf88
  t127 := Tryf.underlying83
  a127 := Tryf.isAgg83
  z127 := Tryf.sizeOf83
  v127 := Tryf.zeroValue83
  t138 := Tryf.underlying90
  a138 := Tryf.isAgg90
  z138 := Tryf.sizeOf90
  v138 := Tryf.zeroValue90
  t139 := Tryf.underlying91
  a139 := Tryf.isAgg91
  z139 := Tryf.sizeOf91
  v139 := Tryf.zeroValue91
  t160 := Tryf.underlying100
  a160 := Tryf.isAgg100
  z160 := Tryf.sizeOf100
  v160 := Tryf.zeroValue100
  t162 := Tryf.underlying98
  a162 := Tryf.isAgg98
  z162 := Tryf.sizeOf98
  v162 := Tryf.zeroValue98
  t164 := Tryf.underlying92
  a164 := Tryf.isAgg92
  z164 := Tryf.sizeOf92
  v164 := Tryf.zeroValue92
  t203 := Tryf.underlying96
  a203 := Tryf.isAgg96
  z203 := Tryf.sizeOf96
  v203 := Tryf.zeroValue96
  t206 := Tryf.underlying104
  a206 := Tryf.isAgg104
  z206 := Tryf.sizeOf104
  v206 := Tryf.zeroValue104
  t208 := Tryf.underlying106
  a208 := Tryf.isAgg106
  z208 := Tryf.sizeOf106
  v208 := Tryf.zeroValue106
  g3 := by kernel_rfl
  g4 := by kernel_rfl
  g13 := by kernel_rfl }
theorem Tryf.Builder_Extra_159 : Builder.Extra Tryf.prog Tryf.lays159_ren := {
  sizeBuilder := by kernel_rfl
  liesBuilder := by kernel_rfl
  t5 := Tryf.underlying5
  a5 := Tryf.isAgg5
  z5 := Tryf.sizeOf5
  v5 := Tryf.zeroValue5
  infoByte := by kernel_rfl
  cellsByte := by kernel_rfl
  sizeByte := by kernel_rfl
  neB5 := by decide }
open Go.RowKit in

theorem Tryf.strings_ToLower_ascii (s : ByteArray) (w : World) (hs : s.size ≤ 140737488355328) (hascii : ∀ (j : Nat) (b : UInt8), s.data.toList[j]? = some b → b.toNat < 128) :
    Calls Tryf.prog 24 #[.string s] w fun e w' => e = .returned (.string ⟨(Lib.toLowerA s.data.toList).toArray⟩) ∧ Below w.heap.size w w' := Any.strings_ToLower_ascii Tryf.lays159 Tryf.Builder_Extra_159 s w hs hascii
def Tryf.lays118_ren : Go.Shelf.Ren := ⟨fun | 118 => 47 | n => n, fun | 21 => 21 | 3 => 3 | 4 => 4 | n => n, fun | n => n⟩
theorem Tryf.lays118 : Go.Proofs.Lays.n118 Tryf.prog Tryf.lays118_ren := {
  mixed := by kernel_rfl
  f118 := Tryf.func47.trans (congrArg some (by kernel_rfl))
  t3 := Tryf.underlying3
  a3 := Tryf.isAgg3
  z3 := Tryf.sizeOf3
  v3 := Tryf.zeroValue3
  t4 := Tryf.underlying4
  a4 := Tryf.isAgg4
  z4 := Tryf.sizeOf4
  v4 := Tryf.zeroValue4
  t21 := Tryf.underlying21
  a21 := Tryf.isAgg21
  z21 := Tryf.sizeOf21
  v21 := Tryf.zeroValue21 }

theorem Tryf.utf8_RuneLen (r : Int) (w : World) :
    Calls Tryf.prog 47 #[.int .i32 r] w fun e w' => e = .returned (.int .i64 (Lib.runeLen r)) ∧ w' = w := Any.utf8_RuneLen Tryf.lays118 r w
def Tryf.lays119_ren : Go.Shelf.Ren := ⟨fun | 119 => 41 | n => n, fun | 21 => 21 | 4 => 4 | n => n, fun | n => n⟩
theorem Tryf.lays119 : Go.Proofs.Lays.n119 Tryf.prog Tryf.lays119_ren := {
  mixed := by kernel_rfl
  f119 := Tryf.func41.trans (congrArg some (by kernel_rfl))
  t4 := Tryf.underlying4
  a4 := Tryf.isAgg4
  z4 := Tryf.sizeOf4
  v4 := Tryf.zeroValue4
  t21 := Tryf.underlying21
  a21 := Tryf.isAgg21
  z21 := Tryf.sizeOf21
  v21 := Tryf.zeroValue21 }

theorem Tryf.utf8_ValidRune (r : Int) (w : World) :
    Calls Tryf.prog 41 #[.int .i32 r] w fun e w' => e = .returned (.bool (Lib.validRune r)) ∧ w' = w := Any.utf8_ValidRune Tryf.lays119 r w
def Tryf.lays137_ren : Go.Shelf.Ren := ⟨fun | 137 => 21 | 217 => 32 | 266 => 44 | n => n, fun | 9 => 9 | 5 => 5 | 3 => 3 | n => n, fun | n => n⟩
theorem Tryf.lays137 : Go.Proofs.Lays.n137 Tryf.prog Tryf.lays137_ren := {
  mixed := by kernel_rfl
  f137 := Tryf.func21.trans (congrArg some (by kernel_rfl))
  f217 := Tryf.func32.trans (congrArg some (by kernel_rfl))
  f266 := Tryf.func44.trans (congrArg some (by kernel_rfl))
  t3 := Tryf.underlying3
  a3 := Tryf.isAgg3
  z3 := Tryf.sizeOf3
  v3 := Tryf.zeroValue3
  t5 := Tryf.underlying5
  a5 := Tryf.isAgg5
  z5 := Tryf.sizeOf5
  v5 := Tryf.zeroValue5
  t9 := Tryf.underlying9
  a9 := Tryf.isAgg9
  z9 := Tryf.sizeOf9
  v9 := Tryf.zeroValue9 }
open Go.RowKit in

theorem Tryf.strings_IndexByte (s : ByteArray) (c : Int) (w : World) :
    Calls Tryf.prog 21 #[.string s, .int .u8 c] w fun e w' => e = .returned (.int .i64 (Lib.indexByte s.data.toList c.toNat.toUInt8)) ∧ w' = w := Any.strings_IndexByte Tryf.lays137 s c w
open Go.RowKit in

theorem Tryf.Builder_String_f (B b : Nat) (l : List UInt8) (w : World) (h : Lib.IsBuilderF 71 5 B b (Lib.byteCells l) w) (h0 : l ≠ []) :
    Calls Tryf.prog 36 #[.pointer (some ⟨b, 0, none⟩)] w fun e w' => e = .returned (.string ⟨l.toArray⟩) ∧ (Lib.IsBuilderF 71 5 B b (Lib.byteCells l) w' ∧ Below B w w') := Any.Builder_String_f Tryf.lays169 Tryf.Builder_Extra_169 B b l w h h0
open Go.RowKit in

theorem Tryf.Builder_String_empty_f (B b : Nat) (w : World) (h : Lib.IsBuilderF 71 5 B b [] w) (hBw : B ≤ w.heap.size) :
    Calls Tryf.prog 36 #[.pointer (some ⟨b, 0, none⟩)] w fun e w' => e = .returned (.string ⟨#[]⟩) ∧ (Lib.IsBuilderF 71 5 B b [] w' ∧ Below B w w') := Any.Builder_String_empty_f Tryf.lays169 Tryf.Builder_Extra_169 B b w h hBw
open Go.RowKit in

theorem Tryf.Builder_String_any_f (B b : Nat) (l : List UInt8) (w : World) (h : Lib.IsBuilderF 71 5 B b (Lib.byteCells l) w) (hBw : B ≤ w.heap.size) :
    Calls Tryf.prog 36 #[.pointer (some ⟨b, 0, none⟩)] w fun e w' => e = .returned (.string ⟨l.toArray⟩) ∧ (Lib.IsBuilderF 71 5 B b (Lib.byteCells l) w' ∧ Below B w w') := Any.Builder_String_any_f Tryf.lays169 Tryf.Builder_Extra_169 B b l w h hBw
open Go.RowKit in

theorem Tryf.Builder_String_k (B b : Nat) (l : List UInt8) (w : World) (h : Lib.IsBuilderF 71 5 B b (Lib.byteCells l) w) (h0 : l ≠ []) :
    Calls Tryf.prog 36 #[.pointer (some ⟨b, 0, none⟩)] w fun e w' => e = .returned (.string ⟨l.toArray⟩) ∧ (Lib.IsBuilderF 71 5 B b (Lib.byteCells l) w' ∧ Below B w w' ∧ Lib.OthersKept 5 (some b) w w') := Any.Builder_String_k Tryf.lays169 Tryf.Builder_Extra_169 B b l w h h0
open Go.RowKit in

theorem Tryf.Builder_String_empty_k (B b : Nat) (w : World) (h : Lib.IsBuilderF 71 5 B b [] w) (hBw : B ≤ w.heap.size) :
    Calls Tryf.prog 36 #[.pointer (some ⟨b, 0, none⟩)] w fun e w' => e = .returned (.string ⟨#[]⟩) ∧ (Lib.IsBuilderF 71 5 B b [] w' ∧ Below B w w' ∧ Lib.OthersKept 5 (some b) w w') := Any.Builder_String_empty_k Tryf.lays169 Tryf.Builder_Extra_169 B b w h hBw
open Go.RowKit in

theorem Tryf.Builder_String_any_k (B b : Nat) (l : List UInt8) (w : World) (h : Lib.IsBuilderF 71 5 B b (Lib.byteCells l) w) (hBw : B ≤ w.heap.size) :
    Calls Tryf.prog 36 #[.pointer (some ⟨b, 0, none⟩)] w fun e w' => e = .returned (.string ⟨l.toArray⟩) ∧ (Lib.IsBuilderF 71 5 B b (Lib.byteCells l) w' ∧ Below B w w' ∧ Lib.OthersKept 5 (some b) w w') := Any.Builder_String_any_k Tryf.lays169 Tryf.Builder_Extra_169 B b l w h hBw
def Tryf.lays217_ren : Go.Shelf.Ren := ⟨fun | 217 => 32 | 266 => 44 | n => n, fun | 9 => 9 | 5 => 5 | 3 => 3 | n => n, fun | n => n⟩
theorem Tryf.lays217 : Go.Proofs.Lays.n217 Tryf.prog Tryf.lays217_ren := {
  mixed := by kernel_rfl
  f217 := Tryf.func32.trans (congrArg some (by kernel_rfl))
  f266 := Tryf.func44.trans (congrArg some (by kernel_rfl))
  t3 := Tryf.underlying3
  a3 := Tryf.isAgg3
  z3 := Tryf.sizeOf3
  v3 := Tryf.zeroValue3
  t5 := Tryf.underlying5
  a5 := Tryf.isAgg5
  z5 := Tryf.sizeOf5
  v5 := Tryf.zeroValue5
  t9 := Tryf.underlying9
  a9 := Tryf.isAgg9
  z9 := Tryf.sizeOf9
  v9 := Tryf.zeroValue9 }
open Go.RowKit Go.Lib in

theorem Tryf.stringslite_IndexByte (s : ByteArray) (c : Int) (w : World) :
    Calls Tryf.prog 32 #[.string s, .int .u8 c] w fun e w' => e = .returned (.int .i64 (Lib.indexByte s.data.toList c.toNat.toUInt8)) ∧ w' = w := Any.stringslite_IndexByte Tryf.lays217 s c w
def Tryf.lays224_ren : Go.Shelf.Ren := ⟨fun | 224 => 42 | n => n, fun | 3 => 3 | n => n, fun | n => n⟩
theorem Tryf.lays224 : Go.Proofs.Lays.n224 Tryf.prog Tryf.lays224_ren := {
  mixed := by kernel_rfl
  f224 := Tryf.func42.trans (congrArg some (by kernel_rfl))
  t3 := Tryf.underlying3
  a3 := Tryf.isAgg3
  z3 := Tryf.sizeOf3
  v3 := Tryf.zeroValue3 }
open Go.RowKit Go.Lib in

theorem Tryf.bytealg_Cutover (n : Int) (h0 : 0 ≤ n) (h1 : n < 4611686018427387904) (w : World) :
    Calls Tryf.prog 42 #[.int .i64 n] w fun e w' => e = .returned (.int .i64 ((n + 16) / 8)) ∧ w' = w := Any.bytealg_Cutover Tryf.lays224 n h0 h1 w
def Tryf.lays206_ren : Go.Shelf.Ren := ⟨fun | 206 => 31 | n => n, fun | 9 => 9 | 4 => 4 | 3 => 3 | n => n, fun | n => n⟩
theorem Tryf.lays206 : Go.Proofs.Lays.n206 Tryf.prog Tryf.lays206_ren := {
  mixed := by kernel_rfl
  f206 := Tryf.func31.trans (congrArg some (by kernel_rfl))
  t3 := Tryf.underlying3
  a3 := Tryf.isAgg3
  z3 := Tryf.sizeOf3
  v3 := Tryf.zeroValue3
  t4 := Tryf.underlying4
  a4 := Tryf.isAgg4
  z4 := Tryf.sizeOf4
  v4 := Tryf.zeroValue4
  t9 := Tryf.underlying9
  a9 := Tryf.isAgg9
  z9 := Tryf.sizeOf9
  v9 := Tryf.zeroValue9 }
open Go.RowKit Go.Lib in

theorem Tryf.stringslite_HasPrefix (s p : ByteArray) (w : World) :
    Calls Tryf.prog 31 #[.string s, .string p] w fun e w' => e = .returned (.bool (Lib.hasPrefix s.data.toList p.data.toList)) ∧ w' = w := Any.stringslite_HasPrefix Tryf.lays206 s p w
def Tryf.lays99_ren : Go.Shelf.Ren := ⟨fun | 99 => 20 | 206 => 31 | n => n, fun | 9 => 9 | 4 => 4 | 3 => 3 | n => n, fun | n => n⟩
theorem Tryf.lays99 : Go.Proofs.Lays.n99 Tryf.prog Tryf.lays99_ren := {
  mixed := by kernel_rfl
  f99 := Tryf.func20.trans (congrArg some (by kernel_rfl))
  f206 := Tryf.func31.trans (congrArg some (by kernel_rfl))
  t3 := Tryf.underlying3
  a3 := Tryf.isAgg3
  z3 := Tryf.sizeOf3
  v3 := Tryf.zeroValue3
  t4 := Tryf.underlying4
  a4 := Tryf.isAgg4
  z4 := Tryf.sizeOf4
  v4 := Tryf.zeroValue4
  t9 := Tryf.underlying9
  a9 := Tryf.isAgg9
  z9 := Tryf.sizeOf9
  v9 := Tryf.zeroValue9 }
open Go.RowKit Go.Lib in

theorem Tryf.strings_HasPrefix (s p : ByteArray) (w : World) :
    Calls Tryf.prog 20 #[.string s, .string p] w fun e w' => e = .returned (.bool (Lib.hasPrefix s.data.toList p.data.toList)) ∧ w' = w := Any.strings_HasPrefix Tryf.lays99 s p w
def Tryf.lays204_ren : Go.Shelf.Ren := ⟨fun | 204 => 38 | 262 => 50 | 313 => 54 | 274 => 56 | 275 => 57 | n => n, fun | 21 => 21 | 4 => 4 | 3 => 3 | 162 => 98 | 203 => 96 | 160 => 100 | 46 => 81 | 0 => 0 | 208 => 106 | 51 => 99 | 206 => 104 | n => n, fun | 13 => 3 | n => n⟩
theorem Tryf.lays204 : Go.Proofs.Lays.n204 Tryf.prog Tryf.lays204_ren := {
  mixed := by kernel_rfl
  f204 := Tryf.func38.trans (congrArg some (by kernel_rfl))
  f262 := Tryf.func50.trans (congrArg some (by kernel_rfl))
  f274 := Tryf.func56.trans (congrArg some (by kernel_rfl))
  f275 := Tryf.func57.trans (congrArg some (by kernel_rfl))
  f313 := Tryf.func54.trans (congrArg some (by kernel_rfl))
  t0 := Tryf.underlying0
  a0 := Tryf.isAgg0
  z0 := Tryf.sizeOf0
  v0 := Tryf.zeroValue0
  t3 := Tryf.underlying3
  a3 := Tryf.isAgg3
  z3 := Tryf.sizeOf3
  v3 := Tryf.zeroValue3
  t4 := Tryf.underlying4
  a4 := Tryf.isAgg4
  z4 := Tryf.sizeOf4
  v4 := Tryf.zeroValue4
  t21 := Tryf.underlying21
  a21 := Tryf.isAgg21
  z21 := Tryf.sizeOf21
  v21 := Tryf.zeroValue21
  t46 := Tryf.underlying81
  a46 := Tryf.isAgg81
  z46 := Tryf.sizeOf81
  v46 := Tryf.zeroValue81
  t51 := Tryf.underlying99
  a51 := Tryf.isAgg99
  z51 := Tryf.sizeOf99
  v51 := Tryf.zeroValue99
  t160 := Tryf.underlying100
  a160 := Tryf.isAgg100
  z160 := Tryf.sizeOf100
  v160 := Tryf.zeroValue100
  t162 := Tryf.underlying98
  a162 := Tryf.isAgg98
  z162 := Tryf.sizeOf98
  v162 := Tryf.zeroValue98
  t203 := Tryf.underlying96
  a203 := Tryf.isAgg96
  z203 := Tryf.sizeOf96
  v203 := Tryf.zeroValue96
  t206 := Tryf.underlying104
  a206 := Tryf.isAgg104
  z206 := Tryf.sizeOf104
  v206 := Tryf.zeroValue104
  t208 := Tryf.underlying106
  a208 := Tryf.isAgg106
  z208 := Tryf.sizeOf106
  v208 := Tryf.zeroValue106
  g13 := by kernel_rfl }
open Go.RowKit Go.Lib in
theorem Tryf.unicode_ToLower (r : Int) (w : World) (h : r ≤ 127) :
    Calls Tryf.prog 38 #[.int .i32 r] w fun e w' => e = .returned (.int .i32 (Lib.toLowerR r)) ∧ w' = w := Any.unicode_ToLower Tryf.lays204 r w h
def Tryf.lays152_ren : Go.Shelf.Ren := ⟨fun | 152 => 30 | 137 => 21 | 119 => 41 | 224 => 42 | 225 => 43 | 217 => 32 | 266 => 44 | n => n, fun | 9 => 9 | 21 => 21 | 3 => 3 | 4 => 4 | 5 => 5 | 0 => 0 | 46 => 81 | n => n, fun | n => n⟩
theorem Tryf.lays152 : Go.Proofs.Lays.n152 Tryf.prog Tryf.lays152_ren := {
  mixed := by kernel_rfl
  f119 := Tryf.func41.trans (congrArg some (by kernel_rfl))
  f137 := Tryf.func21.trans (congrArg some (by kernel_rfl))
  f152 := Tryf.func30.trans (congrArg some (by kernel_rfl))
  f217 := Tryf.func32.trans (congrArg some (by kernel_rfl))
  f224 := Tryf.func42.trans (congrArg some (by kernel_rfl))
  f225 := Tryf.func43.trans (congrArg some (by kernel_rfl))
  f266 := Tryf.func44.trans (congrArg some (by kernel_rfl))
  t0 := Tryf.underlying0
  a0 := Tryf.isAgg0
  z0 := Tryf.sizeOf0
  v0 := Tryf.zeroValue0
  t3 := Tryf.underlying3
  a3 := Tryf.isAgg3
  z3 := Tryf.sizeOf3
  v3 := Tryf.zeroValue3
  t4 := Tryf.underlying4
  a4 := Tryf.isAgg4
  z4 := Tryf.sizeOf4
  v4 := Tryf.zeroValue4
  t5 := Tryf.underlying5
  a5 := Tryf.isAgg5
  z5 := Tryf.sizeOf5
  v5 := Tryf.zeroValue5
  t9 := Tryf.underlying9
  a9 := Tryf.isAgg9
  z9 := Tryf.sizeOf9
  v9 := Tryf.zeroValue9
  t21 := Tryf.underlying21
  a21 := Tryf.isAgg21
  z21 := Tryf.sizeOf21
  v21 := Tryf.zeroValue21
  t46 := Tryf.underlying81
  a46 := Tryf.isAgg81
  z46 := Tryf.sizeOf81
  v46 := Tryf.zeroValue81 }
open Go.RowKit Go.Lib in
theorem Tryf.strings_IndexRune_ascii (s : ByteArray) (r : Int) (w : World) (h0 : 0 ≤ r) (h1 : r < 128) :
    Calls Tryf.prog 30 #[.string s, .int .i32 r] w fun e w' => e = .returned (.int .i64 (Lib.indexByte s.data.toList r.toNat.toUInt8)) ∧ w' = w := Any.strings_IndexRune_ascii Tryf.lays152 s r w h0 h1
def Tryf.lays151_ren : Go.Shelf.Ren := ⟨fun | 151 => 19 | 152 => 30 | 137 => 21 | 119 => 41 | 224 => 42 | 225 => 43 | 217 => 32 | 266 => 44 | n => n, fun | 9 => 9 | 21 => 21 | 4 => 4 | 3 => 3 | 5 => 5 | 0 => 0 | 46 => 81 | n => n, fun | n => n⟩
theorem Tryf.lays151 : Go.Proofs.Lays.n151 Tryf.prog Tryf.lays151_ren := {
  mixed := by kernel_rfl
  f119 := Tryf.func41.trans (congrArg some (by kernel_rfl))
  f137 := Tryf.func21.trans (congrArg some (by kernel_rfl))
  f151 := Tryf.func19.trans (congrArg some (by kernel_rfl))
  f152 := Tryf.func30.trans (congrArg some (by kernel_rfl))
  f217 := Tryf.func32.trans (congrArg some (by kernel_rfl))
  f224 := Tryf.func42.trans (congrArg some (by kernel_rfl))
  f225 := Tryf.func43.trans (congrArg some (by kernel_rfl))
  f266 := Tryf.func44.trans (congrArg some (by kernel_rfl))
  t0 := Tryf.underlying0
  a0 := Tryf.isAgg0
  z0 := Tryf.sizeOf0
  v0 := Tryf.zeroValue0
  t3 := Tryf.underlying3
  a3 := Tryf.isAgg3
  z3 := Tryf.sizeOf3
  v3 := Tryf.zeroValue3
  t4 := Tryf.underlying4
  a4 := Tryf.isAgg4
  z4 := Tryf.sizeOf4
  v4 := Tryf.zeroValue4
  t5 := Tryf.underlying5
  a5 := Tryf.isAgg5
  z5 := Tryf.sizeOf5
  v5 := Tryf.zeroValue5
  t9 := Tryf.underlying9
  a9 := Tryf.isAgg9
  z9 := Tryf.sizeOf9
  v9 := Tryf.zeroValue9
  t21 := Tryf.underlying21
  a21 := Tryf.isAgg21
  z21 := Tryf.sizeOf21
  v21 := Tryf.zeroValue21
  t46 := Tryf.underlying81
  a46 := Tryf.isAgg81
  z46 := Tryf.sizeOf81
  v46 := Tryf.zeroValue81 }
open Go.RowKit Go.Lib in
theorem Tryf.strings_ContainsRune_ascii (s : ByteArray) (r : Int) (w : World) (h0 : 0 ≤ r) (h1 : r < 128) :
    Calls Tryf.prog 19 #[.string s, .int .i32 r] w fun e w' => e = .returned (.bool (decide (0 ≤ Lib.indexByte s.data.toList r.toNat.toUInt8))) ∧ w' = w := Any.strings_ContainsRune_ascii Tryf.lays151 s r w h0 h1
def Tryf.lays260_ren : Go.Shelf.Ren := ⟨fun | 260 => 39 | n => n, fun | 9 => 9 | 21 => 21 | 3 => 3 | 4 => 4 | 5 => 5 | 119 => 88 | 0 => 0 | 46 => 81 | 139 => 91 | 138 => 90 | n => n, fun | 3 => 0 | 4 => 1 | n => n⟩
theorem Tryf.lays260 : Go.Proofs.Lays.n260 Tryf.prog Tryf.lays260_ren := {
  mixed := by kernel_rfl
  f260 := Tryf.func39.trans (congrArg some (by kernel_rfl))
  t0 := Tryf.underlying0
  a0 := Tryf.isAgg0
  z0 := Tryf.sizeOf0
  v0 := Tryf.zeroValue0
  t3 := Tryf.underlying3
  a3 := Tryf.isAgg3
  z3 := Tryf.sizeOf3
  v3 := Tryf.zeroValue3
  t4 := Tryf.underlying4
  a4 := Tryf.isAgg4
  z4 := Tryf.sizeOf4
  v4 := Tryf.zeroValue4
  t5 := Tryf.underlying5
  a5 := Tryf.isAgg5
  z5 := Tryf.sizeOf5
  v5 := Tryf.zeroValue5
  t9 := Tryf.underlying9
  a9 := Tryf.isAgg9
  z9 := Tryf.sizeOf9
  v9 := Tryf.zeroValue9
  t21 := Tryf.underlying21
  a21 := Tryf.isAgg21
  z21 := Tryf.sizeOf21
  v21 := Tryf.zeroValue21
  t46 := Tryf.underlying81
  a46 := Tryf.isAgg81
  z46 := Tryf.sizeOf81
  v46 := Tryf.zeroValue81
  t119 := Tryf.underlying88
  a119 := Tryf.isAgg88
  z119 := Tryf.sizeOf88
  t138 := Tryf.underlying90
  a138 := Tryf.isAgg90
  z138 := Tryf.sizeOf90
  v138 := Tryf.zeroValue90
  t139 := Tryf.underlying91
  a139 := Tryf.isAgg91
  z139 := Tryf.sizeOf91
  v139 := Tryf.zeroValue91
  g3 := by kernel_rfl
  g4 := by kernel_rfl }
open Go.RowKit Go.Lib in
theorem Tryf.utf8_decodeRuneInStringSlow (s : ByteArray) (w : World) (hT : Lib.Utf8Tabs 0 1 w) :
    Calls Tryf.prog 39 #[.string s] w fun e w' => e = .returned (.tuple #[.int .i32 (Lib.decodeGo s).1, .int .i64 (Lib.decodeGo s).2]) ∧ Below w.heap.size w w' := Any.utf8_decodeRuneInStringSlow Tryf.lays260 s w hT
def Tryf.lays197_ren : Go.Shelf.Ren := ⟨fun | 197 => 28 | 260 => 39 | n => n, fun | 9 => 9 | 21 => 21 | 3 => 3 | 4 => 4 | 5 => 5 | 105 => 63 | 119 => 88 | 0 => 0 | 46 => 81 | 139 => 91 | 138 => 90 | n => n, fun | 3 => 0 | 4 => 1 | n => n⟩
theorem Tryf.lays197 : Go.Proofs.Lays.n197 Tryf.prog Tryf.lays197_ren := {
  mixed := by kernel_rfl
  f197 := Tryf.func28.trans (congrArg some (by kernel_rfl))
  f260 := Tryf.func39.trans (congrArg some (by kernel_rfl))
  t0 := Tryf.underlying0
  a0 := Tryf.isAgg0
  z0 := Tryf.sizeOf0
  v0 := Tryf.zeroValue0
  t3 := Tryf.underlying3
  a3 := Tryf.isAgg3
  z3 := Tryf.sizeOf3
  v3 := Tryf.zeroValue3
  t4 := Tryf.underlying4
  a4 := Tryf.isAgg4
  z4 := Tryf.sizeOf4
  v4 := Tryf.zeroValue4
  t5 := Tryf.underlying5
  a5 := Tryf.isAgg5
  z5 := Tryf.sizeOf5
  v5 := Tryf.zeroValue5
  t9 := Tryf.underlying9
  a9 := Tryf.isAgg9
  z9 := Tryf.sizeOf9
  v9 := Tryf.zeroValue9
  t21 := Tryf.underlying21
  a21 := Tryf.isAgg21
  z21 := Tryf.sizeOf21
  v21 := Tryf.zeroValue21
  t46 := Tryf.underlying81
  a46 := Tryf.isAgg81
  z46 := Tryf.sizeOf81
  v46 := Tryf.zeroValue81
  t105 := Tryf.underlying63
  a105 := Tryf.isAgg63
  z105 := Tryf.sizeOf63
  v105 := Tryf.zeroValue63
  t119 := Tryf.underlying88
  a119 := Tryf.isAgg88
  z119 := Tryf.sizeOf88
  t138 := Tryf.underlying90
  a138 := Tryf.isAgg90
  z138 := Tryf.sizeOf90
  v138 := Tryf.zeroValue90
  t139 := Tryf.underlying91
  a139 := Tryf.isAgg91
  z139 := Tryf.sizeOf91
  v139 := Tryf.zeroValue91
  g3 := by kernel_rfl
  g4 := by kernel_rfl }
open Go.RowKit Go.Lib in

theorem Tryf.utf8_DecodeRuneInString (s : ByteArray) (w : World) (hT : Lib.Utf8Tabs 0 1 w) :
    Calls Tryf.prog 28 #[.string s] w fun e w' => e = .returned (.tuple #[.int .i32 (Lib.decodeGo s).1, .int .i64 (Lib.decodeGo s).2]) ∧ Below w.heap.size w w' := Any.utf8_DecodeRuneInString Tryf.lays197 s w hT
def Tryf.lays274_ren : Go.Shelf.Ren := ⟨fun | 274 => 56 | n => n, fun | 21 => 21 | 162 => 98 | 160 => 100 | 3 => 3 | 4 => 4 | 46 => 81 | 0 => 0 | 208 => 106 | 51 => 99 | 206 => 104 | n => n, fun | n => n⟩
theorem Tryf.lays274 : Go.Proofs.Lays.n274 Tryf.prog Tryf.lays274_ren := {
  mixed := by kernel_rfl
  f274 := Tryf.func56.trans (congrArg some (by kernel_rfl))
  t0 := Tryf.underlying0
  a0 := Tryf.isAgg0
  z0 := Tryf.sizeOf0
  v0 := Tryf.zeroValue0
  t3 := Tryf.underlying3
  a3 := Tryf.isAgg3
  z3 := Tryf.sizeOf3
  v3 := Tryf.zeroValue3
  t4 := Tryf.underlying4
  a4 := Tryf.isAgg4
  z4 := Tryf.sizeOf4
  v4 := Tryf.zeroValue4
  t21 := Tryf.underlying21
  a21 := Tryf.isAgg21
  z21 := Tryf.sizeOf21
  v21 := Tryf.zeroValue21
  t46 := Tryf.underlying81
  a46 := Tryf.isAgg81
  z46 := Tryf.sizeOf81
  v46 := Tryf.zeroValue81
  t51 := Tryf.underlying99
  a51 := Tryf.isAgg99
  z51 := Tryf.sizeOf99
  v51 := Tryf.zeroValue99
  t160 := Tryf.underlying100
  a160 := Tryf.isAgg100
  z160 := Tryf.sizeOf100
  v160 := Tryf.zeroValue100
  t162 := Tryf.underlying98
  a162 := Tryf.isAgg98
  z162 := Tryf.sizeOf98
  v162 := Tryf.zeroValue98
  t208 := Tryf.underlying106
  a208 := Tryf.isAgg106
  z208 := Tryf.sizeOf106
  v208 := Tryf.zeroValue106 }
open Go.RowKit Go.Lib in
theorem Tryf.unicode_lookupCaseRange (T : Array CaseRow) (R oR cap : Nat) (r : Int) (w : World) (hT : CaseTab R oR T w) (hok : CaseOk T) (hn : T.size ≤ 1000000000) :
    Calls Tryf.prog 56 #[.int .i32 r, .slice (some ⟨R, oR, none⟩) T.size cap] w fun e w' =>
      e = .returned (match lookupIdx T r (T.size + 1) 0 T.size with | some i => .pointer (some ⟨R, oR + i * 5, none⟩) | none => .pointer none) ∧ w' = w := Any.unicode_lookupCaseRange Tryf.lays274 T R oR cap r w hT hok hn
def Tryf.lays275_ren : Go.Shelf.Ren := ⟨fun | 275 => 57 | n => n, fun | 3 => 3 | 21 => 21 | 160 => 100 | 0 => 0 | 208 => 106 | 206 => 104 | 4 => 4 | 51 => 99 | n => n, fun | n => n⟩
theorem Tryf.lays275 : Go.Proofs.Lays.n275 Tryf.prog Tryf.lays275_ren := {
  mixed := by kernel_rfl
  f275 := Tryf.func57.trans (congrArg some (by kernel_rfl))
  t0 := Tryf.underlying0
  a0 := Tryf.isAgg0
  z0 := Tryf.sizeOf0
  v0 := Tryf.zeroValue0
  t3 := Tryf.underlying3
  a3 := Tryf.isAgg3
  z3 := Tryf.sizeOf3
  v3 := Tryf.zeroValue3
  t4 := Tryf.underlying4
  a4 := Tryf.isAgg4
  z4 := Tryf.sizeOf4
  v4 := Tryf.zeroValue4
  t21 := Tryf.underlying21
  a21 := Tryf.isAgg21
  z21 := Tryf.sizeOf21
  v21 := Tryf.zeroValue21
  t51 := Tryf.underlying99
  a51 := Tryf.isAgg99
  z51 := Tryf.sizeOf99
  v51 := Tryf.zeroValue99
  t160 := Tryf.underlying100
  a160 := Tryf.isAgg100
  z160 := Tryf.sizeOf100
  v160 := Tryf.zeroValue100
  t206 := Tryf.underlying104
  a206 := Tryf.isAgg104
  z206 := Tryf.sizeOf104
  v206 := Tryf.zeroValue104
  t208 := Tryf.underlying106
  a208 := Tryf.isAgg106
  z208 := Tryf.sizeOf106
  v208 := Tryf.zeroValue106 }
open Go.RowKit Go.Lib in
theorem Tryf.unicode_convertCase (c : Nat) (hc : c < 3) (r : Int) (A o : Nat) (x : CaseRow) (w : World) (hlo : (x.1 : Int) ≤ r) (hhi : r ≤ (x.2.1 : Int)) (hH : x.2.1 < 2147483647) (c0 : w.cell? ⟨A, o, none⟩ = some (.int .u32 x.1)) (cD : w.cell? ⟨A, o + 2 + c, none⟩ = some (.int .i32 (x.delta c))) :
    Calls Tryf.prog 57 #[.int .i64 c, .int .i32 r, .pointer (some ⟨A, o, none⟩)] w fun e w' => e = .returned (.int .i32 (wrap32 (convertR c r x))) ∧ ∃ q, w' = w.drewN q := Any.unicode_convertCase Tryf.lays275 c hc r A o x w hlo hhi hH c0 cD
def Tryf.lays313_ren : Go.Shelf.Ren := ⟨fun | 313 => 54 | 274 => 56 | 275 => 57 | n => n, fun | 3 => 3 | 21 => 21 | 162 => 98 | 4 => 4 | 160 => 100 | 46 => 81 | 0 => 0 | 208 => 106 | 51 => 99 | 206 => 104 | n => n, fun | n => n⟩
theorem Tryf.lays313 : Go.Proofs.Lays.n313 Tryf.prog Tryf.lays313_ren := {
  mixed := by kernel_rfl
  f274 := Tryf.func56.trans (congrArg some (by kernel_rfl))
  f275 := Tryf.func57.trans (congrArg some (by kernel_rfl))
  f313 := Tryf.func54.trans (congrArg some (by kernel_rfl))
  t0 := Tryf.underlying0
  a0 := Tryf.isAgg0
  z0 := Tryf.sizeOf0
  v0 := Tryf.zeroValue0
  t3 := Tryf.underlying3
  a3 := Tryf.isAgg3
  z3 := Tryf.sizeOf3
  v3 := Tryf.zeroValue3
  t4 := Tryf.underlying4
  a4 := Tryf.isAgg4
  z4 := Tryf.sizeOf4
  v4 := Tryf.zeroValue4
  t21 := Tryf.underlying21
  a21 := Tryf.isAgg21
  z21 := Tryf.sizeOf21
  v21 := Tryf.zeroValue21
  t46 := Tryf.underlying81
  a46 := Tryf.isAgg81
  z46 := Tryf.sizeOf81
  v46 := Tryf.zeroValue81
  t51 := Tryf.underlying99
  a51 := Tryf.isAgg99
  z51 := Tryf.sizeOf99
  v51 := Tryf.zeroValue99
  t160 := Tryf.underlying100
  a160 := Tryf.isAgg100
  z160 := Tryf.sizeOf100
  v160 := Tryf.zeroValue100
  t162 := Tryf.underlying98
  a162 := Tryf.isAgg98
  z162 := Tryf.sizeOf98
  v162 := Tryf.zeroValue98
  t206 := Tryf.underlying104
  a206 := Tryf.isAgg104
  z206 := Tryf.sizeOf104
  v206 := Tryf.zeroValue104
  t208 := Tryf.underlying106
  a208 := Tryf.isAgg106
  z208 := Tryf.sizeOf106
  v208 := Tryf.zeroValue106 }
open Go.RowKit Go.Lib in
theorem Tryf.unicode_to (c : Nat) (hc : c < 3) (r : Int) (T : Array CaseRow) (R oR cap : Nat) (w : World) (hT : CaseTab R oR T w) (hok : CaseOk2 T) (hn : T.size ≤ 1000000000) :
    Calls Tryf.prog 54 #[.int .i64 c, .int .i32 r, .slice (some ⟨R, oR, none⟩) T.size cap] w fun e w' => e = .returned (.tuple #[.int .i32 (toW T c r), .bool (lookupIdx T r (T.size + 1) 0 T.size).isSome]) ∧ ∃ q, w' = w.drewN q := Any.unicode_to Tryf.lays313 c hc r T R oR cap w hT hok hn
def Tryf.lays262_ren : Go.Shelf.Ren := ⟨fun | 262 => 50 | 313 => 54 | 274 => 56 | 275 => 57 | n => n, fun | 3 => 3 | 21 => 21 | 162 => 98 | 203 => 96 | 4 => 4 | 160 => 100 | 46 => 81 | 0 => 0 | 208 => 106 | 51 => 99 | 206 => 104 | n => n, fun | 13 => 3 | n => n⟩
theorem Tryf.lays262 : Go.Proofs.Lays.n262 Tryf.prog Tryf.lays262_ren := {
  mixed := by kernel_rfl
  f262 := Tryf.func50.trans (congrArg some (by kernel_rfl))
  f274 := Tryf.func56.trans (congrArg some (by kernel_rfl))
  f275 := Tryf.func57.trans (congrArg some (by kernel_rfl))
  f313 := Tryf.func54.trans (congrArg some (by kernel_rfl))
  t0 := Tryf.underlying0
  a0 := Tryf.isAgg0
  z0 := Tryf.sizeOf0
  v0 := Tryf.zeroValue0
  t3 := Tryf.underlying3
  a3 := Tryf.isAgg3
  z3 := Tryf.sizeOf3
  v3 := Tryf.zeroValue3
  t4 := Tryf.underlying4
  a4 := Tryf.isAgg4
  z4 := Tryf.sizeOf4
  v4 := Tryf.zeroValue4
  t21 := Tryf.underlying21
  a21 := Tryf.isAgg21
  z21 := Tryf.sizeOf21
  v21 := Tryf.zeroValue21
  t46 := Tryf.underlying81
  a46 := Tryf.isAgg81
  z46 := Tryf.sizeOf81
  v46 := Tryf.zeroValue81
  t51 := Tryf.underlying99
  a51 := Tryf.isAgg99
  z51 := Tryf.sizeOf99
  v51 := Tryf.zeroValue99
  t160 := Tryf.underlying100
  a160 := Tryf.isAgg100
  z160 := Tryf.sizeOf100
  v160 := Tryf.zeroValue100
  t162 := Tryf.underlying98
  a162 := Tryf.isAgg98
  z162 := Tryf.sizeOf98
  v162 := Tryf.zeroValue98
  t203 := Tryf.underlying96
  a203 := Tryf.isAgg96
  z203 := Tryf.sizeOf96
  v203 := Tryf.zeroValue96
  t206 := Tryf.underlying104
  a206 := Tryf.isAgg104
  z206 := Tryf.sizeOf104
  v206 := Tryf.zeroValue104
  t208 := Tryf.underlying106
  a208 := Tryf.isAgg106
  z208 := Tryf.sizeOf106
  v208 := Tryf.zeroValue106
  g13 := by kernel_rfl }
open Go.RowKit Go.Lib in
theorem Tryf.unicode_To (c : Nat) (hc : c < 3) (r : Int) (T : Array CaseRow) (w : World) (hV : CaseVar 3 T w) (hok : CaseOk2 T) (hn : T.size ≤ 1000000000) :
    Calls Tryf.prog 50 #[.int .i64 c, .int .i32 r] w fun e w' => e = .returned (.int .i32 (toW T c r)) ∧ ∃ q, w' = w.drewN q := Any.unicode_To Tryf.lays262 c hc r T w hV hok hn
open Go.RowKit Go.Lib in
theorem Tryf.unicode_ToLower_any (r : Int) (T : Array CaseRow) (w : World) (hV : CaseVar 3 T w) (hok : CaseOk2 T) (hn : T.size ≤ 1000000000) :
    Calls Tryf.prog 38 #[.int .i32 r] w fun e w' => e = .returned (.int .i32 (Lib.toLowerW T r)) ∧ ∃ q, w' = w.drewN q := Any.unicode_ToLower_any Tryf.lays204 r T w hV hok hn
open Go.RowKit Go.Lib in
theorem Tryf.unicode_ToLower_laid (r : Int) (w : World) (hV : CaseVar 3 caseA w) :
    Calls Tryf.prog 38 #[.int .i32 r] w fun e w' => e = .returned (.int .i32 (toLowerU r)) ∧ ∃ q, w' = w.drewN q := Any.unicode_ToLower_laid Tryf.lays204 r w hV
def Tryf.lays270_ren : Go.Shelf.Ren := ⟨fun | 270 => 49 | n => n, fun | 70 => 68 | 3 => 3 | 0 => 0 | 72 => 71 | 37 => 69 | 5 => 5 | n => n, fun | n => n⟩
theorem Tryf.lays270 : Go.Proofs.Lays.n270 Tryf.prog Tryf.lays270_ren := {
  mixed := by kernel_rfl
  f270 := Tryf.func49.trans (congrArg some (by kernel_rfl))
  t0 := Tryf.underlying0
  a0 := Tryf.isAgg0
  z0 := Tryf.sizeOf0
  v0 := Tryf.zeroValue0
  t3 := Tryf.underlying3
  a3 := Tryf.isAgg3
  z3 := Tryf.sizeOf3
  v3 := Tryf.zeroValue3
  t37 := Tryf.underlying69
  a37 := Tryf.isAgg69
  z37 := Tryf.sizeOf69
  v37 := Tryf.zeroValue69
  t70 := Tryf.underlying68
  a70 := Tryf.isAgg68
  z70 := Tryf.sizeOf68
  v70 := Tryf.zeroValue68
  t72 := Tryf.underlying71
  a72 := Tryf.isAgg71
  z72 := Tryf.sizeOf71
  v72 := Tryf.zeroValue71 }
open Go.RowKit Go.Lib in

theorem Tryf.Builder_Cap_cell (b : Nat) (p : Option Addr) (n cap : Nat) (w : World) (c1 : w.cell? ⟨b, 1, none⟩ = some (.slice p n cap)) :
    Calls Tryf.prog 49 #[.pointer (some ⟨b, 0, none⟩)] w fun e w' => e = .returned (.int .i64 cap) ∧ w' = w := Any.Builder_Cap_cell Tryf.lays270 b p n cap w c1
def Tryf.lays230_ren : Go.Shelf.Ren := ⟨fun | 230 => 37 | 197 => 28 | 118 => 47 | 165 => 33 | 166 => 34 | 168 => 48 | 270 => 49 | 167 => 35 | 169 => 36 | 260 => 39 | 240 => 45 | 241 => 46 | 242 => 53 | 276 => 51 | 277 => 52 | 278 => 55 | n => n, fun | 107 => 77 | 9 => 9 | 72 => 71 | 0 => 0 | 4 => 4 | 3 => 3 | 21 => 21 | 105 => 63 | 76 => 48 | 5 => 5 | 75 => 36 | 70 => 68 | 20 => 20 | 37 => 69 | 127 => 83 | 119 => 88 | 46 => 81 | 139 => 91 | 138 => 90 | 164 => 92 | 51 => 99 | 80 => 75 | n => n, fun | 3 => 0 | 4 => 1 | n => n⟩
theorem Tryf.lays230 : Go.Proofs.Lays.n230 Tryf.prog Tryf.lays230_ren := {
  mixed := by kernel_rfl
  f118 := Tryf.func47.trans (congrArg some (by kernel_rfl))
  f165 := Tryf.func33.trans (congrArg some (by kernel_rfl))
  f166 := Tryf.func34.trans (congrArg some (by kernel_rfl))
  f167 := Tryf.func35.trans (congrArg some (by kernel_rfl))
  f168 := Tryf.func48.trans (congrArg some (by kernel_rfl))
  f169 := Tryf.func36.trans (congrArg some (by kernel_rfl))
  f197 := Tryf.func28.trans (congrArg some (by kernel_rfl))
  f230 := Tryf.func37.trans (congrArg some (by kernel_rfl))
  f240 := Tryf.func45.trans (congrArg some (by kernel_rfl))
  f241 := Tryf.func46.trans (congrArg some (by kernel_rfl))
  f242 := Tryf.func53.trans (congrArg some (by kernel_rfl))
  f260 := Tryf.func39.trans (congrArg some (by kernel_rfl))
  f270 := Tryf.func49.trans (congrArg some (by kernel_rfl))
  f276 := Tryf.func51.trans (congrArg some (by kernel_rfl))
  f277 := Tryf.func52.trans (congrArg some (by kernel_rfl))
  f278 := Tryf.func55.trans (congrArg some (by kernel_rfl))
  t0 := Tryf.underlying0
  a0 := Tryf.isAgg0
  z0 := Tryf.sizeOf0
  v0 := Tryf.zeroValue0
  t3 := Tryf.underlying3
  a3 := Tryf.isAgg3
  z3 := Tryf.sizeOf3
  v3 := Tryf.zeroValue3
  t4 := Tryf.underlying4
  a4 := Tryf.isAgg4
  z4 := Tryf.sizeOf4
  v4 := Tryf.zeroValue4
  t5 := Tryf.underlying5
  a5 := Tryf.isAgg5
  z5 := Tryf.sizeOf5
  v5 := Tryf.zeroValue5
  t9 := Tryf.underlying9
  a9 := Tryf.isAgg9
  z9 := Tryf.sizeOf9
  v9 := Tryf.zeroValue9
  t20 := Tryf.underlying20
  a20 := Tryf.isAgg20
  z20 := Tryf.sizeOf20
  v20 := Tryf.zeroValue20
  t21 := Tryf.underlying21
  a21 := Tryf.isAgg21
  z21 := Tryf.sizeOf21
  v21 := Tryf.zeroValue21
  t37 := Tryf.underlying69
  a37 := Tryf.isAgg69
  z37 := Tryf.sizeOf69
  v37 := Tryf.zeroValue69
  t46 := Tryf.underlying81
  a46 := Tryf.isAgg81
  z46 := Tryf.sizeOf81
  v46 := Tryf.zeroValue81
  t51 := Tryf.underlying99
  a51 := Tryf.isAgg99
  z51 := Tryf.sizeOf99
  v51 := Tryf.zeroValue99
  t70 := Tryf.underlying68
  a70 := Tryf.isAgg68
  z70 := Tryf.sizeOf68
  v70 := Tryf.zeroValue68
  t72 := Tryf.underlying71
  a72 := Tryf.isAgg71
  z72 := Tryf.sizeOf71
  v72 := Tryf.zeroValue71
  t75 := Tryf.underlying36
  a75 := Tryf.isAgg36
  z75 := Tryf.sizeOf36
  v75 := Tryf.zeroValue36
  t76 := Tryf.underlying48
  a76 := Tryf.isAgg48
  z76 := Tryf.sizeOf48
  v76 := Tryf.zeroValue48
  t105 := Tryf.underlying63
  a105 := Tryf.isAgg63
  z105 := Tryf.sizeOf63
  v105 := Tryf.zeroValue63
  t107 := Tryf.underlying77
  a107 := Tryf.isAgg77
  z107 := Tryf.sizeOf77
  v107 := Tryf.zeroValue77
  t119 := Tryf.underlying88
  a119 := Tryf.isAgg88
  z119 := Tryf.sizeOf88
  t127 := Tryf.underlying83
  a127 := Tryf.isAgg83
  z127 := Tryf.sizeOf83
  v127 := Tryf.zeroValue83
  t138 := Tryf.underlying90
  a138 := Tryf.isAgg90
  z138 := Tryf.sizeOf90
  v138 := Tryf.zeroValue90
  t139 := Tryf.underlying91
  a139 := Tryf.isAgg91
  z139 := Tryf.sizeOf91
  v139 := Tryf.zeroValue91
  t164 := Tryf.underlying92
  a164 := Tryf.isAgg92
  z164 := Tryf.sizeOf92
  v164 := Tryf.zeroValue92
  g3 := by kernel_rfl
  g4 := by kernel_rfl }
theorem Tryf.Builder_Extra_230 : Builder.Extra Tryf.prog Tryf.lays230_ren := {
  sizeBuilder := by kernel_rfl
  liesBuilder := by kernel_rfl
  t5 := Tryf.underlying5
  a5 := Tryf.isAgg5
  z5 := Tryf.sizeOf5
  v5 := Tryf.zeroValue5
  infoByte := by kernel_rfl
  cellsByte := by kernel_rfl
  sizeByte := by kernel_rfl
  neB5 := by decide }
open Go.RowKit Go.Lib in
theorem Tryf.strings_Map_runes (g : Nat) (lb : Array Value) (eg : ∀ args w, (callFunc g args).run Tryf.prog w = .ok (.enter g args) w) (f : Int → Int) (s : ByteArray) (w : World) (hs : s.size < 35184372088832) (hf : MapAtRunes Tryf.prog g lb f w) (hnn : ∀ x : Nat, x ≤ 1114111 → 0 ≤ f x ∧ f x ≤ 2147483647) (hT : Lib.Utf8Tabs 0 1 w) :
    Calls Tryf.prog 37 #[.func (.func g) #[] lb, .string s] w fun e w' => e = .returned (.string ⟨(Lib.mapD f s.data.toList).toArray⟩) ∧ Below w.heap.size w w' := Any.strings_Map_runes Tryf.lays230 Tryf.Builder_Extra_230 g lb eg f s w hs hf hnn hT
open Go.RowKit Go.Lib in
theorem Tryf.strings_ToLower_beyond (s : ByteArray) (w : World) (hs : s.size < 35184372088832) (hhigh : ∃ (j : Nat) (b : UInt8), s.data.toList[j]? = some b ∧ 128 ≤ b.toNat) (hV : CaseVar 3 caseA w) (hT : Lib.Utf8Tabs 0 1 w) :
    Calls Tryf.prog 24 #[.string s] w fun e w' => e = .returned (.string ⟨(Lib.toLowerD s.data.toList).toArray⟩) ∧ Below w.heap.size w w' := Any.strings_ToLower_beyond Tryf.lays159 Tryf.Builder_Extra_159 s w hs hhigh hV hT
open Go.RowKit Go.Lib in

theorem Tryf.strings_ToLower_any (s : ByteArray) (w : World) (hs : s.size < 35184372088832) (hV : CaseVar 3 caseA w) (hT : Lib.Utf8Tabs 0 1 w) :
    Calls Tryf.prog 24 #[.string s] w fun e w' => e = .returned (.string ⟨(Lib.toLowerD s.data.toList).toArray⟩) ∧ Below w.heap.size w w' := Any.strings_ToLower_any Tryf.lays159 Tryf.Builder_Extra_159 s w hs hV hT
end Go.Proofs
