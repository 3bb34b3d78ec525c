import Derived.Shelf.Strings.Builder1
import Derived.Shelf.Strings.Builder2
import Derived.Shelf.Strings.OnBuilder
import Derived.Shelf.Small.Utf8
import Derived.Shelf.Strings.BuilderF
import Derived.Shelf.Strings.BuilderK
import Derived.Shelf.Strings.BuilderRune
import Derived.Shelf.Utf8.RuneCount
import Derived.Shelf.Strings.Builder2Cap
import Derived.Shelf.Strings.Search1
import Derived.Shelf.Strings.Search2
import Derived.Shelf.Strings.Search3
import Derived.Shelf.Strings.Count
import Derived.Shelf.LaysM
import Derived.Shelf.Strings.Shaped
import Derived.Shelf.Strings.Split
import Derived.Shelf.Strings.Replace
import Derived.Shelf.Strings.SplitShaped
import Derived.Shelf.Unicode.Latin
import Derived.Shelf.Unicode.Decode
import Derived.Shelf.Strings.RuneCount
import Derived.Shelf.Unicode.DecodeSlow
import Derived.Shelf.Unicode.DecodeAny
import Derived.Shelf.Unicode.CaseLookup
import Derived.Shelf.Unicode.CaseConvert
import Derived.Shelf.Unicode.CaseTo
import Derived.Shelf.Unicode.CaseLaid
import Derived.Shelf.Strings.MapAny
import Derived.Shelf.Strings.CaseAny
import Derived.Test.Qxb6608778aDoorProg
namespace Go.Proofs
open Go.Shelf
def Tryd.lays169_ren : Go.Shelf.Ren := ⟨fun | 169 => 19 | n => n, fun | 70 => 70 | 9 => 9 | 0 => 0 | 72 => 72 | 37 => 38 | 127 => 84 | 3 => 3 | 5 => 5 | n => n, fun | n => n⟩
theorem Tryd.lays169 : Go.Proofs.Lays.n169 Tryd.prog Tryd.lays169_ren := {
  mixed := by kernel_rfl
  f169 := Tryd.func19.trans (congrArg some (by kernel_rfl))
  t0 := Tryd.underlying0
  a0 := Tryd.isAgg0
  z0 := Tryd.sizeOf0
  v0 := Tryd.zeroValue0
  t3 := Tryd.underlying3
  a3 := Tryd.isAgg3
  z3 := Tryd.sizeOf3
  v3 := Tryd.zeroValue3
  t9 := Tryd.underlying9
  a9 := Tryd.isAgg9
  z9 := Tryd.sizeOf9
  v9 := Tryd.zeroValue9
  t37 := Tryd.underlying38
  a37 := Tryd.isAgg38
  z37 := Tryd.sizeOf38
  v37 := Tryd.zeroValue38
  t70 := Tryd.underlying70
  a70 := Tryd.isAgg70
  z70 := Tryd.sizeOf70
  v70 := Tryd.zeroValue70
  t72 := Tryd.underlying72
  a72 := Tryd.isAgg72
  z72 := Tryd.sizeOf72
  v72 := Tryd.zeroValue72
  t127 := Tryd.underlying84
  a127 := Tryd.isAgg84
  z127 := Tryd.sizeOf84
  v127 := Tryd.zeroValue84 }
theorem Tryd.Builder_Extra_169 : Builder.Extra Tryd.prog Tryd.lays169_ren := {
  sizeBuilder := by kernel_rfl
  liesBuilder := by kernel_rfl
  t5 := Tryd.underlying5
  a5 := Tryd.isAgg5
  z5 := Tryd.sizeOf5
  v5 := Tryd.zeroValue5
  infoByte := by kernel_rfl
  cellsByte := by kernel_rfl
  sizeByte := by kernel_rfl
  neB5 := by decide }
open Go.RowKit in

theorem Tryd.Builder_String (B b : Nat) (l : List UInt8) (w : World) (h : Lib.IsBuilder 72 5 B b (Lib.byteCells l) w) (h0 : l ≠ []) :
    Calls Tryd.prog 19 #[.pointer (some ⟨b, 0, none⟩)] w fun e w' => e = .returned (.string ⟨l.toArray⟩) ∧ Below B w w' := Any.Builder_String Tryd.lays169 Tryd.Builder_Extra_169 B b l w h h0
open Go.RowKit in

theorem Tryd.Builder_String_empty (B b : Nat) (w : World) (h : Lib.IsBuilder 72 5 B b [] w) (hBw : B ≤ w.heap.size) :
    Calls Tryd.prog 19 #[.pointer (some ⟨b, 0, none⟩)] w fun e w' => e = .returned (.string ⟨#[]⟩) ∧ Below B w w' := Any.Builder_String_empty Tryd.lays169 Tryd.Builder_Extra_169 B b w h hBw
open Go.RowKit in

theorem Tryd.Builder_String_any (B b : Nat) (l : List UInt8) (w : World) (h : Lib.IsBuilder 72 5 B b (Lib.byteCells l) w) (hBw : B ≤ w.heap.size) :
    Calls Tryd.prog 19 #[.pointer (some ⟨b, 0, none⟩)] w fun e w' => e = .returned (.string ⟨l.toArray⟩) ∧ Below B w w' := Any.Builder_String_any Tryd.lays169 Tryd.Builder_Extra_169 B b l w h hBw
def Tryd.lays241_ren : Go.Shelf.Ren := ⟨fun | 241 => 24 | 277 => 33 | n => n, fun | 70 => 70 | 3 => 3 | 0 => 0 | 72 => 72 | 37 => 38 | 5 => 5 | n => n, fun | n => n⟩
theorem Tryd.lays241 : Go.Proofs.Lays.n241 Tryd.prog Tryd.lays241_ren := {
  mixed := by kernel_rfl
  f241 := Tryd.func24.trans (congrArg some (by kernel_rfl))
  f277 := Tryd.func33.trans (congrArg some (by kernel_rfl))
  t0 := Tryd.underlying0
  a0 := Tryd.isAgg0
  z0 := Tryd.sizeOf0
  v0 := Tryd.zeroValue0
  t3 := Tryd.underlying3
  a3 := Tryd.isAgg3
  z3 := Tryd.sizeOf3
  v3 := Tryd.zeroValue3
  t37 := Tryd.underlying38
  a37 := Tryd.isAgg38
  z37 := Tryd.sizeOf38
  v37 := Tryd.zeroValue38
  t70 := Tryd.underlying70
  a70 := Tryd.isAgg70
  z70 := Tryd.sizeOf70
  v70 := Tryd.zeroValue70
  t72 := Tryd.underlying72
  a72 := Tryd.isAgg72
  z72 := Tryd.sizeOf72
  v72 := Tryd.zeroValue72 }
theorem Tryd.Builder_Extra_241 : Builder.Extra Tryd.prog Tryd.lays241_ren := {
  sizeBuilder := by kernel_rfl
  liesBuilder := by kernel_rfl
  t5 := Tryd.underlying5
  a5 := Tryd.isAgg5
  z5 := Tryd.sizeOf5
  v5 := Tryd.zeroValue5
  infoByte := by kernel_rfl
  cellsByte := by kernel_rfl
  sizeByte := by kernel_rfl
  neB5 := by decide }
open Go.RowKit in

theorem Tryd.Builder_grow_fresh (B b n : Nat) (w : World) (hB : B ≤ b) (hbk : w.heap[b]? = some (.cells #[.pointer (some ⟨b, 0, none⟩), .slice none 0 0] 72 (0, 0))) (hBw : B ≤ w.heap.size) (hn : n ≤ 281474976710656) :
    Calls Tryd.prog 24 #[.pointer (some ⟨b, 0, none⟩), .int .i64 n] w fun e w' => e = .returned (.tuple #[]) ∧ (Lib.BuilderAt 72 5 B b (.pointer (some ⟨b, 0, none⟩)) [] w' ∧ Below B w w') := Any.Builder_grow_fresh Tryd.lays241 Tryd.Builder_Extra_241 B b n w hB hbk hBw hn
def Tryd.lays165_ren : Go.Shelf.Ren := ⟨fun | 165 => 16 | 240 => 23 | 241 => 24 | 276 => 32 | 277 => 33 | n => n, fun | 70 => 70 | 3 => 3 | 0 => 0 | 4 => 4 | 9 => 9 | 20 => 20 | 72 => 72 | 37 => 38 | 164 => 92 | 5 => 5 | n => n, fun | n => n⟩
theorem Tryd.lays165 : Go.Proofs.Lays.n165 Tryd.prog Tryd.lays165_ren := {
  mixed := by kernel_rfl
  f165 := Tryd.func16.trans (congrArg some (by kernel_rfl))
  f240 := Tryd.func23.trans (congrArg some (by kernel_rfl))
  f241 := Tryd.func24.trans (congrArg some (by kernel_rfl))
  f276 := Tryd.func32.trans (congrArg some (by kernel_rfl))
  f277 := Tryd.func33.trans (congrArg some (by kernel_rfl))
  t0 := Tryd.underlying0
  a0 := Tryd.isAgg0
  z0 := Tryd.sizeOf0
  v0 := Tryd.zeroValue0
  t3 := Tryd.underlying3
  a3 := Tryd.isAgg3
  z3 := Tryd.sizeOf3
  v3 := Tryd.zeroValue3
  t4 := Tryd.underlying4
  a4 := Tryd.isAgg4
  z4 := Tryd.sizeOf4
  v4 := Tryd.zeroValue4
  t9 := Tryd.underlying9
  a9 := Tryd.isAgg9
  z9 := Tryd.sizeOf9
  v9 := Tryd.zeroValue9
  t20 := Tryd.underlying20
  a20 := Tryd.isAgg20
  z20 := Tryd.sizeOf20
  v20 := Tryd.zeroValue20
  t37 := Tryd.underlying38
  a37 := Tryd.isAgg38
  z37 := Tryd.sizeOf38
  v37 := Tryd.zeroValue38
  t70 := Tryd.underlying70
  a70 := Tryd.isAgg70
  z70 := Tryd.sizeOf70
  v70 := Tryd.zeroValue70
  t72 := Tryd.underlying72
  a72 := Tryd.isAgg72
  z72 := Tryd.sizeOf72
  v72 := Tryd.zeroValue72
  t164 := Tryd.underlying92
  a164 := Tryd.isAgg92
  z164 := Tryd.sizeOf92
  v164 := Tryd.zeroValue92 }
theorem Tryd.Builder_Extra_165 : Builder.Extra Tryd.prog Tryd.lays165_ren := {
  sizeBuilder := by kernel_rfl
  liesBuilder := by kernel_rfl
  t5 := Tryd.underlying5
  a5 := Tryd.isAgg5
  z5 := Tryd.sizeOf5
  v5 := Tryd.zeroValue5
  infoByte := by kernel_rfl
  cellsByte := by kernel_rfl
  sizeByte := by kernel_rfl
  neB5 := by decide }
open Go.RowKit in

theorem Tryd.Builder_Grow_fresh (B b n : Nat) (w : World) (hB : B ≤ b) (hbk : w.heap[b]? = some (.cells #[.pointer none, .slice none 0 0] 72 (0, 0))) (hBw : B ≤ w.heap.size) (hn : n ≤ 281474976710656) :
    Calls Tryd.prog 16 #[.pointer (some ⟨b, 0, none⟩), .int .i64 n] w fun e w' => e = .returned (.tuple #[]) ∧ (Lib.BuilderAt 72 5 B b (.pointer (some ⟨b, 0, none⟩)) [] w' ∧ Below B w w') := Any.Builder_Grow_fresh Tryd.lays165 Tryd.Builder_Extra_165 B b n w hB hbk hBw hn
def Tryd.lays159_ren : Go.Shelf.Ren := ⟨fun | 159 => 13 | 165 => 16 | 166 => 17 | 167 => 18 | 169 => 19 | 230 => 20 | 204 => 21 | 240 => 23 | 241 => 24 | 197 => 25 | 118 => 26 | 168 => 27 | 270 => 28 | 262 => 29 | 276 => 32 | 277 => 33 | 260 => 34 | 242 => 35 | 313 => 36 | 278 => 40 | 274 => 41 | 275 => 42 | n => n, fun | 9 => 9 | 4 => 4 | 3 => 3 | 5 => 5 | 72 => 72 | 0 => 0 | 76 => 74 | 75 => 60 | 107 => 79 | 70 => 70 | 20 => 20 | 37 => 38 | 127 => 84 | 21 => 21 | 105 => 85 | 164 => 92 | 162 => 98 | 203 => 96 | 119 => 101 | 46 => 102 | 139 => 105 | 138 => 104 | 51 => 51 | 160 => 106 | 208 => 113 | 206 => 111 | 80 => 77 | n => n, fun | 13 => 0 | 3 => 2 | 4 => 3 | n => n⟩
theorem Tryd.lays159 : Go.Proofs.Lays.n159 Tryd.prog Tryd.lays159_ren := {
  mixed := by kernel_rfl
  f118 := Tryd.func26.trans (congrArg some (by kernel_rfl))
  f159 := Tryd.func13.trans (congrArg some (by kernel_rfl))
  f165 := Tryd.func16.trans (congrArg some (by kernel_rfl))
  f166 := Tryd.func17.trans (congrArg some (by kernel_rfl))
  f167 := Tryd.func18.trans (congrArg some (by kernel_rfl))
  f168 := Tryd.func27.trans (congrArg some (by kernel_rfl))
  f169 := Tryd.func19.trans (congrArg some (by kernel_rfl))
  f197 := Tryd.func25.trans (congrArg some (by kernel_rfl))
  f204 := Tryd.func21.trans (congrArg some (by kernel_rfl))
  f230 := Tryd.func20.trans (congrArg some (by kernel_rfl))
  f240 := Tryd.func23.trans (congrArg some (by kernel_rfl))
  f241 := Tryd.func24.trans (congrArg some (by kernel_rfl))
  f242 := Tryd.func35.trans (congrArg some (by kernel_rfl))
  f260 := Tryd.func34.trans (congrArg some (by kernel_rfl))
  f262 := Tryd.func29.trans (congrArg some (by kernel_rfl))
  f270 := Tryd.func28.trans (congrArg some (by kernel_rfl))
  f274 := Tryd.func41.trans (congrArg some (by kernel_rfl))
  f275 := Tryd.func42.trans (congrArg some (by kernel_rfl))
  f276 := Tryd.func32.trans (congrArg some (by kernel_rfl))
  f277 := Tryd.func33.trans (congrArg some (by kernel_rfl))
  f278 := Tryd.func40.trans (congrArg some (by kernel_rfl))
  f313 := Tryd.func36.trans (congrArg some (by kernel_rfl))
  t0 := Tryd.underlying0
  a0 := Tryd.isAgg0
  z0 := Tryd.sizeOf0
  v0 := Tryd.zeroValue0
  t3 := Tryd.underlying3
  a3 := Tryd.isAgg3
  z3 := Tryd.sizeOf3
  v3 := Tryd.zeroValue3
  t4 := Tryd.underlying4
  a4 := Tryd.isAgg4
  z4 := Tryd.sizeOf4
  v4 := Tryd.zeroValue4
  t5 := Tryd.underlying5
  a5 := Tryd.isAgg5
  z5 := Tryd.sizeOf5
  v5 := Tryd.zeroValue5
  t9 := Tryd.underlying9
  a9 := Tryd.isAgg9
  z9 := Tryd.sizeOf9
  v9 := Tryd.zeroValue9
  t20 := Tryd.underlying20
  a20 := Tryd.isAgg20
  z20 := Tryd.sizeOf20
  v20 := Tryd.zeroValue20
  t21 := Tryd.underlying21
  a21 := Tryd.isAgg21
  z21 := Tryd.sizeOf21
  v21 := Tryd.zeroValue21
  t37 := Tryd.underlying38
  a37 := Tryd.isAgg38
  z37 := Tryd.sizeOf38
  v37 := Tryd.zeroValue38
  t46 := Tryd.underlying102
  a46 := Tryd.isAgg102
  z46 := Tryd.sizeOf102
  v46 := Tryd.zeroValue102
  t51 := Tryd.underlying51
  a51 := Tryd.isAgg51
  z51 := Tryd.sizeOf51
  v51 := Tryd.zeroValue51
  t70 := Tryd.underlying70
  a70 := Tryd.isAgg70
  z70 := Tryd.sizeOf70
  v70 := Tryd.zeroValue70
  t72 := Tryd.underlying72
  a72 := Tryd.isAgg72
  z72 := Tryd.sizeOf72
  v72 := Tryd.zeroValue72
  t75 := Tryd.underlying60
  a75 := Tryd.isAgg60
  z75 := Tryd.sizeOf60
  v75 := Tryd.zeroValue60
  t76 := Tryd.underlying74
  a76 := Tryd.isAgg74
  z76 := Tryd.sizeOf74
  v76 := Tryd.zeroValue74
  t105 := Tryd.underlying85
  a105 := Tryd.isAgg85
  z105 := Tryd.sizeOf85
  v105 := Tryd.zeroValue85
  t107 := Tryd.underlying79
  a107 := Tryd.isAgg79
  z107 := Tryd.sizeOf79
  v107 := Tryd.zeroValue79
  t119 := Tryd.underlying101
  a119 := Tryd.isAgg101
  z119 := Tryd.sizeOf101
  t127 := Tryd.underlying84
  a127 := Tryd.isAgg84
  z127 := Tryd.sizeOf84
  v127 := Tryd.zeroValue84
  t138 := Tryd.underlying104
  a138 := Tryd.isAgg104
  z138 := Tryd.sizeOf104
  v138 := Tryd.zeroValue104
  t139 := Tryd.underlying105
  a139 := Tryd.isAgg105
  z139 := Tryd.sizeOf105
  v139 := Tryd.zeroValue105
  t160 := Tryd.underlying106
  a160 := Tryd.isAgg106
  z160 := Tryd.sizeOf106
  v160 := Tryd.zeroValue106
  t162 := Tryd.underlying98
  a162 := Tryd.isAgg98
  z162 := Tryd.sizeOf98
  v162 := Tryd.zeroValue98
  t164 := Tryd.underlying92
  a164 := Tryd.isAgg92
  z164 := Tryd.sizeOf92
  v164 := Tryd.zeroValue92
  t203 := Tryd.underlying96
  a203 := Tryd.isAgg96
  z203 := Tryd.sizeOf96
  v203 := Tryd.zeroValue96
  t206 := Tryd.underlying111
  a206 := Tryd.isAgg111
  z206 := Tryd.sizeOf111
  v206 := Tryd.zeroValue111
  t208 := Tryd.underlying113
  a208 := Tryd.isAgg113
  z208 := Tryd.sizeOf113
  v208 := Tryd.zeroValue113
  g3 := by kernel_rfl
  g4 := by kernel_rfl
  g13 := by kernel_rfl }
theorem Tryd.Builder_Extra_159 : Builder.Extra Tryd.prog Tryd.lays159_ren := {
  sizeBuilder := by kernel_rfl
  liesBuilder := by kernel_rfl
  t5 := Tryd.underlying5
  a5 := Tryd.isAgg5
  z5 := Tryd.sizeOf5
  v5 := Tryd.zeroValue5
  infoByte := by kernel_rfl
  cellsByte := by kernel_rfl
  sizeByte := by kernel_rfl
  neB5 := by decide }
open Go.RowKit in

theorem Tryd.strings_ToLower_ascii (s : ByteArray) (w : World) (hs : s.size ≤ 140737488355328) (hascii : ∀ (j : Nat) (b : UInt8), s.data.toList[j]? = some b → b.toNat < 128) :
    Calls Tryd.prog 13 #[.string s] w fun e w' => e = .returned (.string ⟨(Lib.toLowerA s.data.toList).toArray⟩) ∧ Below w.heap.size w w' := Any.strings_ToLower_ascii Tryd.lays159 Tryd.Builder_Extra_159 s w hs hascii
def Tryd.lays118_ren : Go.Shelf.Ren := ⟨fun | 118 => 26 | n => n, fun | 21 => 21 | 3 => 3 | 4 => 4 | n => n, fun | n => n⟩
theorem Tryd.lays118 : Go.Proofs.Lays.n118 Tryd.prog Tryd.lays118_ren := {
  mixed := by kernel_rfl
  f118 := Tryd.func26.trans (congrArg some (by kernel_rfl))
  t3 := Tryd.underlying3
  a3 := Tryd.isAgg3
  z3 := Tryd.sizeOf3
  v3 := Tryd.zeroValue3
  t4 := Tryd.underlying4
  a4 := Tryd.isAgg4
  z4 := Tryd.sizeOf4
  v4 := Tryd.zeroValue4
  t21 := Tryd.underlying21
  a21 := Tryd.isAgg21
  z21 := Tryd.sizeOf21
  v21 := Tryd.zeroValue21 }

theorem Tryd.utf8_RuneLen (r : Int) (w : World) :
    Calls Tryd.prog 26 #[.int .i32 r] w fun e w' => e = .returned (.int .i64 (Lib.runeLen r)) ∧ w' = w := Any.utf8_RuneLen Tryd.lays118 r w
open Go.RowKit in

theorem Tryd.Builder_String_f (B b : Nat) (l : List UInt8) (w : World) (h : Lib.IsBuilderF 72 5 B b (Lib.byteCells l) w) (h0 : l ≠ []) :
    Calls Tryd.prog 19 #[.pointer (some ⟨b, 0, none⟩)] w fun e w' => e = .returned (.string ⟨l.toArray⟩) ∧ (Lib.IsBuilderF 72 5 B b (Lib.byteCells l) w' ∧ Below B w w') := Any.Builder_String_f Tryd.lays169 Tryd.Builder_Extra_169 B b l w h h0
open Go.RowKit in

theorem Tryd.Builder_String_empty_f (B b : Nat) (w : World) (h : Lib.IsBuilderF 72 5 B b [] w) (hBw : B ≤ w.heap.size) :
    Calls Tryd.prog 19 #[.pointer (some ⟨b, 0, none⟩)] w fun e w' => e = .returned (.string ⟨#[]⟩) ∧ (Lib.IsBuilderF 72 5 B b [] w' ∧ Below B w w') := Any.Builder_String_empty_f Tryd.lays169 Tryd.Builder_Extra_169 B b w h hBw
open Go.RowKit in

theorem Tryd.Builder_String_any_f (B b : Nat) (l : List UInt8) (w : World) (h : Lib.IsBuilderF 72 5 B b (Lib.byteCells l) w) (hBw : B ≤ w.heap.size) :
    Calls Tryd.prog 19 #[.pointer (some ⟨b, 0, none⟩)] w fun e w' => e = .returned (.string ⟨l.toArray⟩) ∧ (Lib.IsBuilderF 72 5 B b (Lib.byteCells l) w' ∧ Below B w w') := Any.Builder_String_any_f Tryd.lays169 Tryd.Builder_Extra_169 B b l w h hBw
open Go.RowKit in

theorem Tryd.Builder_String_k (B b : Nat) (l : List UInt8) (w : World) (h : Lib.IsBuilderF 72 5 B b (Lib.byteCells l) w) (h0 : l ≠ []) :
    Calls Tryd.prog 19 #[.pointer (some ⟨b, 0, none⟩)] w fun e w' => e = .returned (.string ⟨l.toArray⟩) ∧ (Lib.IsBuilderF 72 5 B b (Lib.byteCells l) w' ∧ Below B w w' ∧ Lib.OthersKept 5 (some b) w w') := Any.Builder_String_k Tryd.lays169 Tryd.Builder_Extra_169 B b l w h h0
open Go.RowKit in

theorem Tryd.Builder_String_empty_k (B b : Nat) (w : World) (h : Lib.IsBuilderF 72 5 B b [] w) (hBw : B ≤ w.heap.size) :
    Calls Tryd.prog 19 #[.pointer (some ⟨b, 0, none⟩)] w fun e w' => e = .returned (.string ⟨#[]⟩) ∧ (Lib.IsBuilderF 72 5 B b [] w' ∧ Below B w w' ∧ Lib.OthersKept 5 (some b) w w') := Any.Builder_String_empty_k Tryd.lays169 Tryd.Builder_Extra_169 B b w h hBw
open Go.RowKit in

theorem Tryd.Builder_String_any_k (B b : Nat) (l : List UInt8) (w : World) (h : Lib.IsBuilderF 72 5 B b (Lib.byteCells l) w) (hBw : B ≤ w.heap.size) :
    Calls Tryd.prog 19 #[.pointer (some ⟨b, 0, none⟩)] w fun e w' => e = .returned (.string ⟨l.toArray⟩) ∧ (Lib.IsBuilderF 72 5 B b (Lib.byteCells l) w' ∧ Below B w w' ∧ Lib.OthersKept 5 (some b) w w') := Any.Builder_String_any_k Tryd.lays169 Tryd.Builder_Extra_169 B b l w h hBw
def Tryd.lays195_ren : Go.Shelf.Ren := ⟨fun | 195 => 37 | n => n, fun | 9 => 9 | 3 => 3 | 0 => 0 | 4 => 4 | n => n, fun | n => n⟩
theorem Tryd.lays195 : Go.Proofs.Lays.n195 Tryd.prog Tryd.lays195_ren := {
  mixed := by kernel_rfl
  f195 := Tryd.func37.trans (congrArg some (by kernel_rfl))
  t0 := Tryd.underlying0
  a0 := Tryd.isAgg0
  z0 := Tryd.sizeOf0
  v0 := Tryd.zeroValue0
  t3 := Tryd.underlying3
  a3 := Tryd.isAgg3
  z3 := Tryd.sizeOf3
  v3 := Tryd.zeroValue3
  t4 := Tryd.underlying4
  a4 := Tryd.isAgg4
  z4 := Tryd.sizeOf4
  v4 := Tryd.zeroValue4
  t9 := Tryd.underlying9
  a9 := Tryd.isAgg9
  z9 := Tryd.sizeOf9
  v9 := Tryd.zeroValue9 }
open Go.RowKit in

theorem Tryd.utf8_RuneCountInString (s : ByteArray) (w : World) (hs : s.size < 9223372036854775807) :
    Calls Tryd.prog 37 #[.string s] w fun e w' => e = .returned (.int .i64 (Lib.runeCount s)) ∧ ∃ pos, w' = w.iter s pos := Any.utf8_RuneCountInString Tryd.lays195 s w hs
open Go.RowKit in

theorem Tryd.Builder_grow_fresh_cap (B b n : Nat) (w : World) (hB : B ≤ b) (hbk : w.heap[b]? = some (.cells #[.pointer (some ⟨b, 0, none⟩), .slice none 0 0] 72 (0, 0))) (hBw : B ≤ w.heap.size) (hn : n ≤ 281474976710656) :
    Calls Tryd.prog 24 #[.pointer (some ⟨b, 0, none⟩), .int .i64 n] w fun e w' => e = .returned (.tuple #[]) ∧ (Lib.BuilderAt 72 5 B b (.pointer (some ⟨b, 0, none⟩)) [] w' ∧ Below B w w') ∧ ∃ p cap, w'.cell? ⟨b, 1, none⟩ = some (.slice p 0 cap) ∧ n ≤ cap := Any.Builder_grow_fresh_cap Tryd.lays241 Tryd.Builder_Extra_241 B b n w hB hbk hBw hn
open Go.RowKit in

theorem Tryd.Builder_Grow_fresh_cap (B b n : Nat) (w : World) (hB : B ≤ b) (hbk : w.heap[b]? = some (.cells #[.pointer none, .slice none 0 0] 72 (0, 0))) (hBw : B ≤ w.heap.size) (hn : n ≤ 281474976710656) :
    Calls Tryd.prog 16 #[.pointer (some ⟨b, 0, none⟩), .int .i64 n] w fun e w' => e = .returned (.tuple #[]) ∧ (Lib.BuilderAt 72 5 B b (.pointer (some ⟨b, 0, none⟩)) [] w' ∧ Below B w w') ∧ ∃ p cap, w'.cell? ⟨b, 1, none⟩ = some (.slice p 0 cap) ∧ n ≤ cap := Any.Builder_Grow_fresh_cap Tryd.lays165 Tryd.Builder_Extra_165 B b n w hB hbk hBw hn
def Tryd.lays217_ren : Go.Shelf.Ren := ⟨fun | 217 => 43 | 266 => 47 | n => n, fun | 9 => 9 | 5 => 5 | 3 => 3 | n => n, fun | n => n⟩
theorem Tryd.lays217 : Go.Proofs.Lays.n217 Tryd.prog Tryd.lays217_ren := {
  mixed := by kernel_rfl
  f217 := Tryd.func43.trans (congrArg some (by kernel_rfl))
  f266 := Tryd.func47.trans (congrArg some (by kernel_rfl))
  t3 := Tryd.underlying3
  a3 := Tryd.isAgg3
  z3 := Tryd.sizeOf3
  v3 := Tryd.zeroValue3
  t5 := Tryd.underlying5
  a5 := Tryd.isAgg5
  z5 := Tryd.sizeOf5
  v5 := Tryd.zeroValue5
  t9 := Tryd.underlying9
  a9 := Tryd.isAgg9
  z9 := Tryd.sizeOf9
  v9 := Tryd.zeroValue9 }
open Go.RowKit Go.Lib in

theorem Tryd.stringslite_IndexByte (s : ByteArray) (c : Int) (w : World) :
    Calls Tryd.prog 43 #[.string s, .int .u8 c] w fun e w' => e = .returned (.int .i64 (Lib.indexByte s.data.toList c.toNat.toUInt8)) ∧ w' = w := Any.stringslite_IndexByte Tryd.lays217 s c w
def Tryd.lays224_ren : Go.Shelf.Ren := ⟨fun | 224 => 45 | n => n, fun | 3 => 3 | n => n, fun | n => n⟩
theorem Tryd.lays224 : Go.Proofs.Lays.n224 Tryd.prog Tryd.lays224_ren := {
  mixed := by kernel_rfl
  f224 := Tryd.func45.trans (congrArg some (by kernel_rfl))
  t3 := Tryd.underlying3
  a3 := Tryd.isAgg3
  z3 := Tryd.sizeOf3
  v3 := Tryd.zeroValue3 }
open Go.RowKit Go.Lib in

theorem Tryd.bytealg_Cutover (n : Int) (h0 : 0 ≤ n) (h1 : n < 4611686018427387904) (w : World) :
    Calls Tryd.prog 45 #[.int .i64 n] w fun e w' => e = .returned (.int .i64 ((n + 16) / 8)) ∧ w' = w := Any.bytealg_Cutover Tryd.lays224 n h0 h1 w
def Tryd.lays314_ren : Go.Shelf.Ren := ⟨fun | 314 => 48 | n => n, fun | 9 => 9 | 51 => 51 | 3 => 3 | 4 => 4 | 5 => 5 | 46 => 102 | n => n, fun | n => n⟩
theorem Tryd.lays314 : Go.Proofs.Lays.n314 Tryd.prog Tryd.lays314_ren := {
  mixed := by kernel_rfl
  f314 := Tryd.func48.trans (congrArg some (by kernel_rfl))
  t3 := Tryd.underlying3
  a3 := Tryd.isAgg3
  z3 := Tryd.sizeOf3
  v3 := Tryd.zeroValue3
  t4 := Tryd.underlying4
  a4 := Tryd.isAgg4
  z4 := Tryd.sizeOf4
  v4 := Tryd.zeroValue4
  t5 := Tryd.underlying5
  a5 := Tryd.isAgg5
  z5 := Tryd.sizeOf5
  v5 := Tryd.zeroValue5
  t9 := Tryd.underlying9
  a9 := Tryd.isAgg9
  z9 := Tryd.sizeOf9
  v9 := Tryd.zeroValue9
  t46 := Tryd.underlying102
  a46 := Tryd.isAgg102
  z46 := Tryd.sizeOf102
  v46 := Tryd.zeroValue102
  t51 := Tryd.underlying51
  a51 := Tryd.isAgg51
  z51 := Tryd.sizeOf51
  v51 := Tryd.zeroValue51 }
open Go.RowKit Go.Lib in

theorem Tryd.bytealg_hashStr (sep : ByteArray) (hs : sep.size < 4294967281) (w : World) :
    Calls Tryd.prog 48 #[.string sep] w fun e w' => e = .returned (.tuple #[.int .u32 (RK.H sep.data.toList % 4294967296), .int .u32 (16777619 ^ sep.size % 4294967296)]) ∧ w' = w := Any.bytealg_hashStr Tryd.lays314 sep hs w
def Tryd.lays267_ren : Go.Shelf.Ren := ⟨fun | 267 => 46 | 314 => 48 | n => n, fun | 9 => 9 | 3 => 3 | 146 => 114 | 51 => 51 | 4 => 4 | 5 => 5 | 46 => 102 | n => n, fun | n => n⟩
theorem Tryd.lays267 : Go.Proofs.Lays.n267 Tryd.prog Tryd.lays267_ren := {
  mixed := by kernel_rfl
  f267 := Tryd.func46.trans (congrArg some (by kernel_rfl))
  f314 := Tryd.func48.trans (congrArg some (by kernel_rfl))
  t3 := Tryd.underlying3
  a3 := Tryd.isAgg3
  z3 := Tryd.sizeOf3
  v3 := Tryd.zeroValue3
  t4 := Tryd.underlying4
  a4 := Tryd.isAgg4
  z4 := Tryd.sizeOf4
  v4 := Tryd.zeroValue4
  t5 := Tryd.underlying5
  a5 := Tryd.isAgg5
  z5 := Tryd.sizeOf5
  v5 := Tryd.zeroValue5
  t9 := Tryd.underlying9
  a9 := Tryd.isAgg9
  z9 := Tryd.sizeOf9
  v9 := Tryd.zeroValue9
  t46 := Tryd.underlying102
  a46 := Tryd.isAgg102
  z46 := Tryd.sizeOf102
  v46 := Tryd.zeroValue102
  t51 := Tryd.underlying51
  a51 := Tryd.isAgg51
  z51 := Tryd.sizeOf51
  v51 := Tryd.zeroValue51
  t146 := Tryd.underlying114
  a146 := Tryd.isAgg114
  z146 := Tryd.sizeOf114
  v146 := Tryd.zeroValue114 }
open Go.RowKit Go.Lib in
theorem Tryd.bytealg_IndexRabinKarp (s sep : ByteArray) (h1 : 1 ≤ sep.size) (h2 : sep.size ≤ s.size) (hs : s.size < 4294967281) (w : World) :
    Calls Tryd.prog 46 #[.string s, .string sep] w fun e w' => e = .returned (.int .i64 (Lib.index s.data.toList sep.data.toList)) ∧ w' = w := Any.bytealg_IndexRabinKarp Tryd.lays267 s sep h1 h2 hs w
def Tryd.lays219_ren : Go.Shelf.Ren := ⟨fun | 219 => 39 | 217 => 43 | 225 => 44 | 224 => 45 | 267 => 46 | 266 => 47 | 314 => 48 | n => n, fun | 9 => 9 | 3 => 3 | 4 => 4 | 5 => 5 | 46 => 102 | 146 => 114 | 51 => 51 | n => n, fun | 1 => 1 | n => n⟩
theorem Tryd.lays219 : Go.Proofs.Lays.n219 Tryd.prog Tryd.lays219_ren := {
  mixed := by kernel_rfl
  f217 := Tryd.func43.trans (congrArg some (by kernel_rfl))
  f219 := Tryd.func39.trans (congrArg some (by kernel_rfl))
  f224 := Tryd.func45.trans (congrArg some (by kernel_rfl))
  f225 := Tryd.func44.trans (congrArg some (by kernel_rfl))
  f266 := Tryd.func47.trans (congrArg some (by kernel_rfl))
  f267 := Tryd.func46.trans (congrArg some (by kernel_rfl))
  f314 := Tryd.func48.trans (congrArg some (by kernel_rfl))
  t3 := Tryd.underlying3
  a3 := Tryd.isAgg3
  z3 := Tryd.sizeOf3
  v3 := Tryd.zeroValue3
  t4 := Tryd.underlying4
  a4 := Tryd.isAgg4
  z4 := Tryd.sizeOf4
  v4 := Tryd.zeroValue4
  t5 := Tryd.underlying5
  a5 := Tryd.isAgg5
  z5 := Tryd.sizeOf5
  v5 := Tryd.zeroValue5
  t9 := Tryd.underlying9
  a9 := Tryd.isAgg9
  z9 := Tryd.sizeOf9
  v9 := Tryd.zeroValue9
  t46 := Tryd.underlying102
  a46 := Tryd.isAgg102
  z46 := Tryd.sizeOf102
  v46 := Tryd.zeroValue102
  t51 := Tryd.underlying51
  a51 := Tryd.isAgg51
  z51 := Tryd.sizeOf51
  v51 := Tryd.zeroValue51
  t146 := Tryd.underlying114
  a146 := Tryd.isAgg114
  z146 := Tryd.sizeOf114
  v146 := Tryd.zeroValue114
  g1 := by kernel_rfl }
open Go.RowKit Go.Lib in

theorem Tryd.stringslite_Index_one (s : ByteArray) (c : UInt8) (w : World) :
    Calls Tryd.prog 39 #[.string s, .string ⟨#[c]⟩] w fun e w' => e = .returned (.int .i64 (Lib.indexByte s.data.toList c)) ∧ w' = w := Any.stringslite_Index_one Tryd.lays219 s c w
open Go.RowKit Go.Lib in

theorem Tryd.stringslite_Index (s sub : ByteArray) (m : Int) (w : World) (hs : s.size < 4294967281) (hm : w.cell? ⟨1, 0, none⟩ = some (.int .i64 m)) :
    Calls Tryd.prog 39 #[.string s, .string sub] w fun e w' => e = .returned (.int .i64 (Lib.index s.data.toList sub.data.toList)) ∧ w' = w := Any.stringslite_Index Tryd.lays219 s sub m w hs hm
def Tryd.lays143_ren : Go.Shelf.Ren := ⟨fun | 143 => 31 | 219 => 39 | 217 => 43 | 225 => 44 | 224 => 45 | 267 => 46 | 266 => 47 | 314 => 48 | n => n, fun | 9 => 9 | 3 => 3 | 4 => 4 | 5 => 5 | 46 => 102 | 146 => 114 | 51 => 51 | n => n, fun | 1 => 1 | n => n⟩
theorem Tryd.lays143 : Go.Proofs.Lays.n143 Tryd.prog Tryd.lays143_ren := {
  mixed := by kernel_rfl
  f143 := Tryd.func31.trans (congrArg some (by kernel_rfl))
  f217 := Tryd.func43.trans (congrArg some (by kernel_rfl))
  f219 := Tryd.func39.trans (congrArg some (by kernel_rfl))
  f224 := Tryd.func45.trans (congrArg some (by kernel_rfl))
  f225 := Tryd.func44.trans (congrArg some (by kernel_rfl))
  f266 := Tryd.func47.trans (congrArg some (by kernel_rfl))
  f267 := Tryd.func46.trans (congrArg some (by kernel_rfl))
  f314 := Tryd.func48.trans (congrArg some (by kernel_rfl))
  t3 := Tryd.underlying3
  a3 := Tryd.isAgg3
  z3 := Tryd.sizeOf3
  v3 := Tryd.zeroValue3
  t4 := Tryd.underlying4
  a4 := Tryd.isAgg4
  z4 := Tryd.sizeOf4
  v4 := Tryd.zeroValue4
  t5 := Tryd.underlying5
  a5 := Tryd.isAgg5
  z5 := Tryd.sizeOf5
  v5 := Tryd.zeroValue5
  t9 := Tryd.underlying9
  a9 := Tryd.isAgg9
  z9 := Tryd.sizeOf9
  v9 := Tryd.zeroValue9
  t46 := Tryd.underlying102
  a46 := Tryd.isAgg102
  z46 := Tryd.sizeOf102
  v46 := Tryd.zeroValue102
  t51 := Tryd.underlying51
  a51 := Tryd.isAgg51
  z51 := Tryd.sizeOf51
  v51 := Tryd.zeroValue51
  t146 := Tryd.underlying114
  a146 := Tryd.isAgg114
  z146 := Tryd.sizeOf114
  v146 := Tryd.zeroValue114
  g1 := by kernel_rfl }
open Go.RowKit Go.Lib in

theorem Tryd.strings_Index_one (s : ByteArray) (c : UInt8) (w : World) :
    Calls Tryd.prog 31 #[.string s, .string ⟨#[c]⟩] w fun e w' => e = .returned (.int .i64 (Lib.indexByte s.data.toList c)) ∧ w' = w := Any.strings_Index_one Tryd.lays143 s c w
open Go.RowKit Go.Lib in

theorem Tryd.strings_Index (s sub : ByteArray) (m : Int) (w : World) (hs : s.size < 4294967281) (hm : w.cell? ⟨1, 0, none⟩ = some (.int .i64 m)) :
    Calls Tryd.prog 31 #[.string s, .string sub] w fun e w' => e = .returned (.int .i64 (Lib.index s.data.toList sub.data.toList)) ∧ w' = w := Any.strings_Index Tryd.lays143 s sub m w hs hm
def Tryd.lays138_ren : Go.Shelf.Ren := ⟨fun | 138 => 30 | 195 => 37 | 218 => 38 | 143 => 31 | 219 => 39 | 217 => 43 | 225 => 44 | 224 => 45 | 267 => 46 | 266 => 47 | 314 => 48 | n => n, fun | 9 => 9 | 3 => 3 | 4 => 4 | 5 => 5 | 0 => 0 | 46 => 102 | 146 => 114 | 51 => 51 | n => n, fun | 1 => 1 | n => n⟩
theorem Tryd.lays138 : Go.Proofs.Lays.n138 Tryd.prog Tryd.lays138_ren := {
  mixed := by kernel_rfl
  f138 := Tryd.func30.trans (congrArg some (by kernel_rfl))
  f143 := Tryd.func31.trans (congrArg some (by kernel_rfl))
  f195 := Tryd.func37.trans (congrArg some (by kernel_rfl))
  f217 := Tryd.func43.trans (congrArg some (by kernel_rfl))
  f218 := Tryd.func38.trans (congrArg some (by kernel_rfl))
  f219 := Tryd.func39.trans (congrArg some (by kernel_rfl))
  f224 := Tryd.func45.trans (congrArg some (by kernel_rfl))
  f225 := Tryd.func44.trans (congrArg some (by kernel_rfl))
  f266 := Tryd.func47.trans (congrArg some (by kernel_rfl))
  f267 := Tryd.func46.trans (congrArg some (by kernel_rfl))
  f314 := Tryd.func48.trans (congrArg some (by kernel_rfl))
  t0 := Tryd.underlying0
  a0 := Tryd.isAgg0
  z0 := Tryd.sizeOf0
  v0 := Tryd.zeroValue0
  t3 := Tryd.underlying3
  a3 := Tryd.isAgg3
  z3 := Tryd.sizeOf3
  v3 := Tryd.zeroValue3
  t4 := Tryd.underlying4
  a4 := Tryd.isAgg4
  z4 := Tryd.sizeOf4
  v4 := Tryd.zeroValue4
  t5 := Tryd.underlying5
  a5 := Tryd.isAgg5
  z5 := Tryd.sizeOf5
  v5 := Tryd.zeroValue5
  t9 := Tryd.underlying9
  a9 := Tryd.isAgg9
  z9 := Tryd.sizeOf9
  v9 := Tryd.zeroValue9
  t46 := Tryd.underlying102
  a46 := Tryd.isAgg102
  z46 := Tryd.sizeOf102
  v46 := Tryd.zeroValue102
  t51 := Tryd.underlying51
  a51 := Tryd.isAgg51
  z51 := Tryd.sizeOf51
  v51 := Tryd.zeroValue51
  t146 := Tryd.underlying114
  a146 := Tryd.isAgg114
  z146 := Tryd.sizeOf114
  v146 := Tryd.zeroValue114
  g1 := by kernel_rfl }
open Go.RowKit Go.Lib in

theorem Tryd.strings_Count_one (s : ByteArray) (c : UInt8) (w : World) :
    Calls Tryd.prog 30 #[.string s, .string ⟨#[c]⟩] w fun e w' => e = .returned (.int .i64 (Lib.countByte s.data.toList c)) ∧ w' = w := Any.strings_Count_one Tryd.lays138 s c w
open Go.RowKit Go.Lib in

theorem Tryd.strings_Count (s sub : ByteArray) (m : Int) (w : World) (hs : s.size < 4294967281) (hm : w.cell? ⟨1, 0, none⟩ = some (.int .i64 m)) (h2 : 2 ≤ sub.size) :
    Calls Tryd.prog 30 #[.string s, .string sub] w fun e w' => e = .returned (.int .i64 (Lib.countB s sub)) ∧ w' = w := Any.strings_Count Tryd.lays138 s sub m w hs hm h2
def Tryd.laysM219_ren : Go.Shelf.Ren := ⟨fun | 219 => 39 | 217 => 43 | 225 => 44 | 224 => 45 | 267 => 46 | 266 => 47 | 314 => 48 | n => n, fun | 9 => 9 | 3 => 3 | 4 => 4 | 5 => 5 | 46 => 102 | 146 => 114 | 51 => 51 | n => n, fun | 1 => 1 | n => n⟩
theorem Tryd.laysM219 : Go.Proofs.LaysM.n219 Tryd.prog Tryd.laysM219_ren := {
  mixed := by kernel_rfl
  f217 := Tryd.func43.trans (congrArg some (by kernel_rfl))
  f219 := Tryd.func39.trans (congrArg some (by kernel_rfl))
  f224 := Tryd.func45.trans (congrArg some (by kernel_rfl))
  f225 := Tryd.func44.trans (congrArg some (by kernel_rfl))
  f266 := Tryd.func47.trans (congrArg some (by kernel_rfl))
  f267 := Tryd.func46.trans (congrArg some (by kernel_rfl))
  f314 := Tryd.func48.trans (congrArg some (by kernel_rfl))
  t3 := Tryd.underlying3
  a3 := Tryd.isAgg3
  z3 := Tryd.sizeOf3
  v3 := Tryd.zeroValue3
  t4 := Tryd.underlying4
  a4 := Tryd.isAgg4
  z4 := Tryd.sizeOf4
  v4 := Tryd.zeroValue4
  t5 := Tryd.underlying5
  a5 := Tryd.isAgg5
  z5 := Tryd.sizeOf5
  v5 := Tryd.zeroValue5
  t9 := Tryd.underlying9
  a9 := Tryd.isAgg9
  z9 := Tryd.sizeOf9
  v9 := Tryd.zeroValue9
  t46 := Tryd.underlying102
  a46 := Tryd.isAgg102
  z46 := Tryd.sizeOf102
  v46 := Tryd.zeroValue102
  t51 := Tryd.underlying51
  a51 := Tryd.isAgg51
  z51 := Tryd.sizeOf51
  v51 := Tryd.zeroValue51
  t146 := Tryd.underlying114
  a146 := Tryd.isAgg114
  z146 := Tryd.sizeOf114
  v146 := Tryd.zeroValue114
  g1 := by kernel_rfl
  i3 := by kernel_rfl
  i4 := by kernel_rfl
  i5 := by kernel_rfl
  i9 := by kernel_rfl
  i46 := by kernel_rfl
  i51 := by kernel_rfl
  i146 := by kernel_rfl
  m1 := by kernel_rfl
  s1_3 := fun w h => Go.Proofs.cell_of_shapedOpen_int (zero := #[.int .i64 0]) (t := 3) h (of_decide_eq_true (by kernel_rfl)) (by kernel_rfl) rfl (by kernel_rfl) (by kernel_rfl) Tryd.underlying3 }
open Go.RowKit Go.Lib in
theorem Tryd.stringslite_Index_shaped (s sub : ByteArray) (w : World) (h : w.ShapedOpen Tryd.prog) (hs : s.size < 4294967281) :
    Calls Tryd.prog 39 #[.string s, .string sub] w fun e w' => e = .returned (.int .i64 (Lib.index s.data.toList sub.data.toList)) ∧ w' = w := Any.stringslite_Index_shaped Tryd.laysM219 s sub w h hs
def Tryd.laysM143_ren : Go.Shelf.Ren := ⟨fun | 143 => 31 | 219 => 39 | 217 => 43 | 225 => 44 | 224 => 45 | 267 => 46 | 266 => 47 | 314 => 48 | n => n, fun | 9 => 9 | 3 => 3 | 4 => 4 | 5 => 5 | 46 => 102 | 146 => 114 | 51 => 51 | n => n, fun | 1 => 1 | n => n⟩
theorem Tryd.laysM143 : Go.Proofs.LaysM.n143 Tryd.prog Tryd.laysM143_ren := {
  mixed := by kernel_rfl
  f143 := Tryd.func31.trans (congrArg some (by kernel_rfl))
  f217 := Tryd.func43.trans (congrArg some (by kernel_rfl))
  f219 := Tryd.func39.trans (congrArg some (by kernel_rfl))
  f224 := Tryd.func45.trans (congrArg some (by kernel_rfl))
  f225 := Tryd.func44.trans (congrArg some (by kernel_rfl))
  f266 := Tryd.func47.trans (congrArg some (by kernel_rfl))
  f267 := Tryd.func46.trans (congrArg some (by kernel_rfl))
  f314 := Tryd.func48.trans (congrArg some (by kernel_rfl))
  t3 := Tryd.underlying3
  a3 := Tryd.isAgg3
  z3 := Tryd.sizeOf3
  v3 := Tryd.zeroValue3
  t4 := Tryd.underlying4
  a4 := Tryd.isAgg4
  z4 := Tryd.sizeOf4
  v4 := Tryd.zeroValue4
  t5 := Tryd.underlying5
  a5 := Tryd.isAgg5
  z5 := Tryd.sizeOf5
  v5 := Tryd.zeroValue5
  t9 := Tryd.underlying9
  a9 := Tryd.isAgg9
  z9 := Tryd.sizeOf9
  v9 := Tryd.zeroValue9
  t46 := Tryd.underlying102
  a46 := Tryd.isAgg102
  z46 := Tryd.sizeOf102
  v46 := Tryd.zeroValue102
  t51 := Tryd.underlying51
  a51 := Tryd.isAgg51
  z51 := Tryd.sizeOf51
  v51 := Tryd.zeroValue51
  t146 := Tryd.underlying114
  a146 := Tryd.isAgg114
  z146 := Tryd.sizeOf114
  v146 := Tryd.zeroValue114
  g1 := by kernel_rfl
  i3 := by kernel_rfl
  i4 := by kernel_rfl
  i5 := by kernel_rfl
  i9 := by kernel_rfl
  i46 := by kernel_rfl
  i51 := by kernel_rfl
  i146 := by kernel_rfl
  m1 := by kernel_rfl
  s1_3 := fun w h => Go.Proofs.cell_of_shapedOpen_int (zero := #[.int .i64 0]) (t := 3) h (of_decide_eq_true (by kernel_rfl)) (by kernel_rfl) rfl (by kernel_rfl) (by kernel_rfl) Tryd.underlying3 }
open Go.RowKit Go.Lib in
theorem Tryd.strings_Index_shaped (s sub : ByteArray) (w : World) (h : w.ShapedOpen Tryd.prog) (hs : s.size < 4294967281) :
    Calls Tryd.prog 31 #[.string s, .string sub] w fun e w' => e = .returned (.int .i64 (Lib.index s.data.toList sub.data.toList)) ∧ w' = w := Any.strings_Index_shaped Tryd.laysM143 s sub w h hs
def Tryd.laysM138_ren : Go.Shelf.Ren := ⟨fun | 138 => 30 | 195 => 37 | 218 => 38 | 143 => 31 | 219 => 39 | 217 => 43 | 225 => 44 | 224 => 45 | 267 => 46 | 266 => 47 | 314 => 48 | n => n, fun | 9 => 9 | 3 => 3 | 4 => 4 | 5 => 5 | 0 => 0 | 46 => 102 | 146 => 114 | 51 => 51 | n => n, fun | 1 => 1 | n => n⟩
theorem Tryd.laysM138 : Go.Proofs.LaysM.n138 Tryd.prog Tryd.laysM138_ren := {
  mixed := by kernel_rfl
  f138 := Tryd.func30.trans (congrArg some (by kernel_rfl))
  f143 := Tryd.func31.trans (congrArg some (by kernel_rfl))
  f195 := Tryd.func37.trans (congrArg some (by kernel_rfl))
  f217 := Tryd.func43.trans (congrArg some (by kernel_rfl))
  f218 := Tryd.func38.trans (congrArg some (by kernel_rfl))
  f219 := Tryd.func39.trans (congrArg some (by kernel_rfl))
  f224 := Tryd.func45.trans (congrArg some (by kernel_rfl))
  f225 := Tryd.func44.trans (congrArg some (by kernel_rfl))
  f266 := Tryd.func47.trans (congrArg some (by kernel_rfl))
  f267 := Tryd.func46.trans (congrArg some (by kernel_rfl))
  f314 := Tryd.func48.trans (congrArg some (by kernel_rfl))
  t0 := Tryd.underlying0
  a0 := Tryd.isAgg0
  z0 := Tryd.sizeOf0
  v0 := Tryd.zeroValue0
  t3 := Tryd.underlying3
  a3 := Tryd.isAgg3
  z3 := Tryd.sizeOf3
  v3 := Tryd.zeroValue3
  t4 := Tryd.underlying4
  a4 := Tryd.isAgg4
  z4 := Tryd.sizeOf4
  v4 := Tryd.zeroValue4
  t5 := Tryd.underlying5
  a5 := Tryd.isAgg5
  z5 := Tryd.sizeOf5
  v5 := Tryd.zeroValue5
  t9 := Tryd.underlying9
  a9 := Tryd.isAgg9
  z9 := Tryd.sizeOf9
  v9 := Tryd.zeroValue9
  t46 := Tryd.underlying102
  a46 := Tryd.isAgg102
  z46 := Tryd.sizeOf102
  v46 := Tryd.zeroValue102
  t51 := Tryd.underlying51
  a51 := Tryd.isAgg51
  z51 := Tryd.sizeOf51
  v51 := Tryd.zeroValue51
  t146 := Tryd.underlying114
  a146 := Tryd.isAgg114
  z146 := Tryd.sizeOf114
  v146 := Tryd.zeroValue114
  g1 := by kernel_rfl
  i0 := by kernel_rfl
  i3 := by kernel_rfl
  i4 := by kernel_rfl
  i5 := by kernel_rfl
  i9 := by kernel_rfl
  i46 := by kernel_rfl
  i51 := by kernel_rfl
  i146 := by kernel_rfl
  m1 := by kernel_rfl
  s1_3 := fun w h => Go.Proofs.cell_of_shapedOpen_int (zero := #[.int .i64 0]) (t := 3) h (of_decide_eq_true (by kernel_rfl)) (by kernel_rfl) rfl (by kernel_rfl) (by kernel_rfl) Tryd.underlying3 }
open Go.RowKit Go.Lib in
theorem Tryd.strings_Count_shaped (s sub : ByteArray) (w : World) (h : w.ShapedOpen Tryd.prog) (hs : s.size < 4294967281) (h2 : 2 ≤ sub.size) :
    Calls Tryd.prog 30 #[.string s, .string sub] w fun e w' => e = .returned (.int .i64 (Lib.countB s sub)) ∧ w' = w := Any.strings_Count_shaped Tryd.laysM138 s sub w h hs h2
open Go.RowKit Go.Lib in

theorem Tryd.strings_Count_any (s sep : ByteArray) (m : Int) (w : World) (hs : s.size < 4294967281) (hm : w.cell? ⟨1, 0, none⟩ = some (.int .i64 m)) (h1 : 1 ≤ sep.size) :
    Calls Tryd.prog 30 #[.string s, .string sep] w fun e w' => e = .returned (.int .i64 (Lib.countB s sep)) ∧ w' = w := Any.strings_Count_any Tryd.lays138 s sep m w hs hm h1
def Tryd.lays154_ren : Go.Shelf.Ren := ⟨fun | 154 => 22 | 138 => 30 | 165 => 16 | 143 => 31 | 166 => 17 | 197 => 25 | 169 => 19 | 195 => 37 | 218 => 38 | 240 => 23 | 241 => 24 | 219 => 39 | 260 => 34 | 276 => 32 | 277 => 33 | 217 => 43 | 225 => 44 | 224 => 45 | 267 => 46 | 266 => 47 | 314 => 48 | n => n, fun | 9 => 9 | 3 => 3 | 4 => 4 | 72 => 72 | 0 => 0 | 76 => 74 | 105 => 85 | 21 => 21 | 5 => 5 | 70 => 70 | 20 => 20 | 37 => 38 | 75 => 60 | 127 => 84 | 164 => 92 | 46 => 102 | 119 => 101 | 139 => 105 | 138 => 104 | 146 => 114 | 51 => 51 | 80 => 77 | n => n, fun | 1 => 1 | 3 => 2 | 4 => 3 | n => n⟩
theorem Tryd.lays154 : Go.Proofs.Lays.n154 Tryd.prog Tryd.lays154_ren := {
  mixed := by kernel_rfl
  f138 := Tryd.func30.trans (congrArg some (by kernel_rfl))
  f143 := Tryd.func31.trans (congrArg some (by kernel_rfl))
  f154 := Tryd.func22.trans (congrArg some (by kernel_rfl))
  f165 := Tryd.func16.trans (congrArg some (by kernel_rfl))
  f166 := Tryd.func17.trans (congrArg some (by kernel_rfl))
  f169 := Tryd.func19.trans (congrArg some (by kernel_rfl))
  f195 := Tryd.func37.trans (congrArg some (by kernel_rfl))
  f197 := Tryd.func25.trans (congrArg some (by kernel_rfl))
  f217 := Tryd.func43.trans (congrArg some (by kernel_rfl))
  f218 := Tryd.func38.trans (congrArg some (by kernel_rfl))
  f219 := Tryd.func39.trans (congrArg some (by kernel_rfl))
  f224 := Tryd.func45.trans (congrArg some (by kernel_rfl))
  f225 := Tryd.func44.trans (congrArg some (by kernel_rfl))
  f240 := Tryd.func23.trans (congrArg some (by kernel_rfl))
  f241 := Tryd.func24.trans (congrArg some (by kernel_rfl))
  f260 := Tryd.func34.trans (congrArg some (by kernel_rfl))
  f266 := Tryd.func47.trans (congrArg some (by kernel_rfl))
  f267 := Tryd.func46.trans (congrArg some (by kernel_rfl))
  f276 := Tryd.func32.trans (congrArg some (by kernel_rfl))
  f277 := Tryd.func33.trans (congrArg some (by kernel_rfl))
  f314 := Tryd.func48.trans (congrArg some (by kernel_rfl))
  t0 := Tryd.underlying0
  a0 := Tryd.isAgg0
  z0 := Tryd.sizeOf0
  v0 := Tryd.zeroValue0
  t3 := Tryd.underlying3
  a3 := Tryd.isAgg3
  z3 := Tryd.sizeOf3
  v3 := Tryd.zeroValue3
  t4 := Tryd.underlying4
  a4 := Tryd.isAgg4
  z4 := Tryd.sizeOf4
  v4 := Tryd.zeroValue4
  t5 := Tryd.underlying5
  a5 := Tryd.isAgg5
  z5 := Tryd.sizeOf5
  v5 := Tryd.zeroValue5
  t9 := Tryd.underlying9
  a9 := Tryd.isAgg9
  z9 := Tryd.sizeOf9
  v9 := Tryd.zeroValue9
  t20 := Tryd.underlying20
  a20 := Tryd.isAgg20
  z20 := Tryd.sizeOf20
  v20 := Tryd.zeroValue20
  t21 := Tryd.underlying21
  a21 := Tryd.isAgg21
  z21 := Tryd.sizeOf21
  v21 := Tryd.zeroValue21
  t37 := Tryd.underlying38
  a37 := Tryd.isAgg38
  z37 := Tryd.sizeOf38
  v37 := Tryd.zeroValue38
  t46 := Tryd.underlying102
  a46 := Tryd.isAgg102
  z46 := Tryd.sizeOf102
  v46 := Tryd.zeroValue102
  t51 := Tryd.underlying51
  a51 := Tryd.isAgg51
  z51 := Tryd.sizeOf51
  v51 := Tryd.zeroValue51
  t70 := Tryd.underlying70
  a70 := Tryd.isAgg70
  z70 := Tryd.sizeOf70
  v70 := Tryd.zeroValue70
  t72 := Tryd.underlying72
  a72 := Tryd.isAgg72
  z72 := Tryd.sizeOf72
  v72 := Tryd.zeroValue72
  t75 := Tryd.underlying60
  a75 := Tryd.isAgg60
  z75 := Tryd.sizeOf60
  v75 := Tryd.zeroValue60
  t76 := Tryd.underlying74
  a76 := Tryd.isAgg74
  z76 := Tryd.sizeOf74
  v76 := Tryd.zeroValue74
  t105 := Tryd.underlying85
  a105 := Tryd.isAgg85
  z105 := Tryd.sizeOf85
  v105 := Tryd.zeroValue85
  t119 := Tryd.underlying101
  a119 := Tryd.isAgg101
  z119 := Tryd.sizeOf101
  t127 := Tryd.underlying84
  a127 := Tryd.isAgg84
  z127 := Tryd.sizeOf84
  v127 := Tryd.zeroValue84
  t138 := Tryd.underlying104
  a138 := Tryd.isAgg104
  z138 := Tryd.sizeOf104
  v138 := Tryd.zeroValue104
  t139 := Tryd.underlying105
  a139 := Tryd.isAgg105
  z139 := Tryd.sizeOf105
  v139 := Tryd.zeroValue105
  t146 := Tryd.underlying114
  a146 := Tryd.isAgg114
  z146 := Tryd.sizeOf114
  v146 := Tryd.zeroValue114
  t164 := Tryd.underlying92
  a164 := Tryd.isAgg92
  z164 := Tryd.sizeOf92
  v164 := Tryd.zeroValue92
  g1 := by kernel_rfl
  g3 := by kernel_rfl
  g4 := by kernel_rfl }
theorem Tryd.Builder_Extra_154 : Builder.Extra Tryd.prog Tryd.lays154_ren := {
  sizeBuilder := by kernel_rfl
  liesBuilder := by kernel_rfl
  t5 := Tryd.underlying5
  a5 := Tryd.isAgg5
  z5 := Tryd.sizeOf5
  v5 := Tryd.zeroValue5
  infoByte := by kernel_rfl
  cellsByte := by kernel_rfl
  sizeByte := by kernel_rfl
  neB5 := by decide }
open Go.RowKit Go.Lib in

theorem Tryd.strings_Replace_some (s old new : ByteArray) (n : Int) (m : Int) (w : World) (hs : s.size < 4294967281) (hm : w.cell? ⟨1, 0, none⟩ = some (.int .i64 m)) (h1 : 1 ≤ old.size) (hne : old ≠ new) (hn0 : n ≠ 0) (hc0 : Lib.countB s old ≠ 0) (hlen : s.size + Lib.countB s old * new.size ≤ 140737488355328) :
    Calls Tryd.prog 22 #[.string s, .string old, .string new, .int .i64 n] w fun e w' =>
      e = .returned (.string ⟨(Lib.replaceK old.data.toList new.data.toList (Lib.replaceNum s.data.toList old.data.toList n) s.data.toList).toArray⟩) ∧ Below w.heap.size w w' := Any.strings_Replace_some Tryd.lays154 Tryd.Builder_Extra_154 s old new n m w hs hm h1 hne hn0 hc0 hlen
open Go.RowKit Go.Lib in

theorem Tryd.strings_Replace_none (s old new : ByteArray) (n : Int) (w : World) (h : old = new ∨ n = 0) :
    Calls Tryd.prog 22 #[.string s, .string old, .string new, .int .i64 n] w fun e w' => e = .returned (.string s) ∧ w' = w := Any.strings_Replace_none Tryd.lays154 s old new n w h
open Go.RowKit Go.Lib in

theorem Tryd.strings_Replace_absent (s old new : ByteArray) (n : Int) (m : Int) (w : World) (hs : s.size < 4294967281) (hm : w.cell? ⟨1, 0, none⟩ = some (.int .i64 m)) (h1 : 1 ≤ old.size) (hne : old ≠ new) (hn0 : n ≠ 0) (hc0 : Lib.countB s old = 0) :
    Calls Tryd.prog 22 #[.string s, .string old, .string new, .int .i64 n] w fun e w' => e = .returned (.string s) ∧ w' = w := Any.strings_Replace_absent Tryd.lays154 s old new n m w hs hm h1 hne hn0 hc0
open Go.RowKit Go.Lib in

theorem Tryd.strings_Replace (s old new : ByteArray) (n : Int) (m : Int) (w : World) (hs : s.size < 4294967281) (hm : w.cell? ⟨1, 0, none⟩ = some (.int .i64 m)) (h1 : 1 ≤ old.size) (hlen : s.size + Lib.countB s old * new.size ≤ 140737488355328) :
    Calls Tryd.prog 22 #[.string s, .string old, .string new, .int .i64 n] w fun e w' =>
      e = .returned (.string ⟨(Lib.replace s.data.toList old.data.toList new.data.toList n).toArray⟩) ∧ Below w.heap.size w w' := Any.strings_Replace Tryd.lays154 Tryd.Builder_Extra_154 s old new n m w hs hm h1 hlen
def Tryd.lays155_ren : Go.Shelf.Ren := ⟨fun | 155 => 14 | 154 => 22 | 138 => 30 | 165 => 16 | 143 => 31 | 166 => 17 | 197 => 25 | 169 => 19 | 195 => 37 | 218 => 38 | 240 => 23 | 241 => 24 | 219 => 39 | 260 => 34 | 276 => 32 | 277 => 33 | 217 => 43 | 225 => 44 | 224 => 45 | 267 => 46 | 266 => 47 | 314 => 48 | n => n, fun | 9 => 9 | 3 => 3 | 4 => 4 | 72 => 72 | 0 => 0 | 76 => 74 | 105 => 85 | 21 => 21 | 5 => 5 | 70 => 70 | 20 => 20 | 37 => 38 | 75 => 60 | 127 => 84 | 164 => 92 | 46 => 102 | 119 => 101 | 139 => 105 | 138 => 104 | 146 => 114 | 51 => 51 | 80 => 77 | n => n, fun | 1 => 1 | 3 => 2 | 4 => 3 | n => n⟩
theorem Tryd.lays155 : Go.Proofs.Lays.n155 Tryd.prog Tryd.lays155_ren := {
  mixed := by kernel_rfl
  f138 := Tryd.func30.trans (congrArg some (by kernel_rfl))
  f143 := Tryd.func31.trans (congrArg some (by kernel_rfl))
  f154 := Tryd.func22.trans (congrArg some (by kernel_rfl))
  f155 := Tryd.func14.trans (congrArg some (by kernel_rfl))
  f165 := Tryd.func16.trans (congrArg some (by kernel_rfl))
  f166 := Tryd.func17.trans (congrArg some (by kernel_rfl))
  f169 := Tryd.func19.trans (congrArg some (by kernel_rfl))
  f195 := Tryd.func37.trans (congrArg some (by kernel_rfl))
  f197 := Tryd.func25.trans (congrArg some (by kernel_rfl))
  f217 := Tryd.func43.trans (congrArg some (by kernel_rfl))
  f218 := Tryd.func38.trans (congrArg some (by kernel_rfl))
  f219 := Tryd.func39.trans (congrArg some (by kernel_rfl))
  f224 := Tryd.func45.trans (congrArg some (by kernel_rfl))
  f225 := Tryd.func44.trans (congrArg some (by kernel_rfl))
  f240 := Tryd.func23.trans (congrArg some (by kernel_rfl))
  f241 := Tryd.func24.trans (congrArg some (by kernel_rfl))
  f260 := Tryd.func34.trans (congrArg some (by kernel_rfl))
  f266 := Tryd.func47.trans (congrArg some (by kernel_rfl))
  f267 := Tryd.func46.trans (congrArg some (by kernel_rfl))
  f276 := Tryd.func32.trans (congrArg some (by kernel_rfl))
  f277 := Tryd.func33.trans (congrArg some (by kernel_rfl))
  f314 := Tryd.func48.trans (congrArg some (by kernel_rfl))
  t0 := Tryd.underlying0
  a0 := Tryd.isAgg0
  z0 := Tryd.sizeOf0
  v0 := Tryd.zeroValue0
  t3 := Tryd.underlying3
  a3 := Tryd.isAgg3
  z3 := Tryd.sizeOf3
  v3 := Tryd.zeroValue3
  t4 := Tryd.underlying4
  a4 := Tryd.isAgg4
  z4 := Tryd.sizeOf4
  v4 := Tryd.zeroValue4
  t5 := Tryd.underlying5
  a5 := Tryd.isAgg5
  z5 := Tryd.sizeOf5
  v5 := Tryd.zeroValue5
  t9 := Tryd.underlying9
  a9 := Tryd.isAgg9
  z9 := Tryd.sizeOf9
  v9 := Tryd.zeroValue9
  t20 := Tryd.underlying20
  a20 := Tryd.isAgg20
  z20 := Tryd.sizeOf20
  v20 := Tryd.zeroValue20
  t21 := Tryd.underlying21
  a21 := Tryd.isAgg21
  z21 := Tryd.sizeOf21
  v21 := Tryd.zeroValue21
  t37 := Tryd.underlying38
  a37 := Tryd.isAgg38
  z37 := Tryd.sizeOf38
  v37 := Tryd.zeroValue38
  t46 := Tryd.underlying102
  a46 := Tryd.isAgg102
  z46 := Tryd.sizeOf102
  v46 := Tryd.zeroValue102
  t51 := Tryd.underlying51
  a51 := Tryd.isAgg51
  z51 := Tryd.sizeOf51
  v51 := Tryd.zeroValue51
  t70 := Tryd.underlying70
  a70 := Tryd.isAgg70
  z70 := Tryd.sizeOf70
  v70 := Tryd.zeroValue70
  t72 := Tryd.underlying72
  a72 := Tryd.isAgg72
  z72 := Tryd.sizeOf72
  v72 := Tryd.zeroValue72
  t75 := Tryd.underlying60
  a75 := Tryd.isAgg60
  z75 := Tryd.sizeOf60
  v75 := Tryd.zeroValue60
  t76 := Tryd.underlying74
  a76 := Tryd.isAgg74
  z76 := Tryd.sizeOf74
  v76 := Tryd.zeroValue74
  t105 := Tryd.underlying85
  a105 := Tryd.isAgg85
  z105 := Tryd.sizeOf85
  v105 := Tryd.zeroValue85
  t119 := Tryd.underlying101
  a119 := Tryd.isAgg101
  z119 := Tryd.sizeOf101
  t127 := Tryd.underlying84
  a127 := Tryd.isAgg84
  z127 := Tryd.sizeOf84
  v127 := Tryd.zeroValue84
  t138 := Tryd.underlying104
  a138 := Tryd.isAgg104
  z138 := Tryd.sizeOf104
  v138 := Tryd.zeroValue104
  t139 := Tryd.underlying105
  a139 := Tryd.isAgg105
  z139 := Tryd.sizeOf105
  v139 := Tryd.zeroValue105
  t146 := Tryd.underlying114
  a146 := Tryd.isAgg114
  z146 := Tryd.sizeOf114
  v146 := Tryd.zeroValue114
  t164 := Tryd.underlying92
  a164 := Tryd.isAgg92
  z164 := Tryd.sizeOf92
  v164 := Tryd.zeroValue92
  g1 := by kernel_rfl
  g3 := by kernel_rfl
  g4 := by kernel_rfl }
theorem Tryd.Builder_Extra_155 : Builder.Extra Tryd.prog Tryd.lays155_ren := {
  sizeBuilder := by kernel_rfl
  liesBuilder := by kernel_rfl
  t5 := Tryd.underlying5
  a5 := Tryd.isAgg5
  z5 := Tryd.sizeOf5
  v5 := Tryd.zeroValue5
  infoByte := by kernel_rfl
  cellsByte := by kernel_rfl
  sizeByte := by kernel_rfl
  neB5 := by decide }
open Go.RowKit Go.Lib in

theorem Tryd.strings_ReplaceAll (s old new : ByteArray) (m : Int) (w : World) (hs : s.size < 4294967281) (hm : w.cell? ⟨1, 0, none⟩ = some (.int .i64 m)) (h1 : 1 ≤ old.size) (hlen : s.size + Lib.countB s old * new.size ≤ 140737488355328) :
    Calls Tryd.prog 14 #[.string s, .string old, .string new] w fun e w' =>
      e = .returned (.string ⟨(Lib.replaceAll s.data.toList old.data.toList new.data.toList).toArray⟩) ∧ Below w.heap.size w w' := Any.strings_ReplaceAll Tryd.lays155 Tryd.Builder_Extra_155 s old new m w hs hm h1 hlen
def Tryd.laysM154_ren : Go.Shelf.Ren := ⟨fun | 154 => 22 | 138 => 30 | 165 => 16 | 143 => 31 | 166 => 17 | 197 => 25 | 169 => 19 | 195 => 37 | 218 => 38 | 240 => 23 | 241 => 24 | 219 => 39 | 260 => 34 | 276 => 32 | 277 => 33 | 217 => 43 | 225 => 44 | 224 => 45 | 267 => 46 | 266 => 47 | 314 => 48 | n => n, fun | 9 => 9 | 3 => 3 | 4 => 4 | 72 => 72 | 0 => 0 | 76 => 74 | 105 => 85 | 21 => 21 | 5 => 5 | 70 => 70 | 20 => 20 | 37 => 38 | 75 => 60 | 127 => 84 | 164 => 92 | 46 => 102 | 119 => 101 | 139 => 105 | 138 => 104 | 146 => 114 | 51 => 51 | 80 => 77 | n => n, fun | 1 => 1 | 3 => 2 | 4 => 3 | n => n⟩
theorem Tryd.laysM154 : Go.Proofs.LaysM.n154 Tryd.prog Tryd.laysM154_ren := {
  mixed := by kernel_rfl
  f138 := Tryd.func30.trans (congrArg some (by kernel_rfl))
  f143 := Tryd.func31.trans (congrArg some (by kernel_rfl))
  f154 := Tryd.func22.trans (congrArg some (by kernel_rfl))
  f165 := Tryd.func16.trans (congrArg some (by kernel_rfl))
  f166 := Tryd.func17.trans (congrArg some (by kernel_rfl))
  f169 := Tryd.func19.trans (congrArg some (by kernel_rfl))
  f195 := Tryd.func37.trans (congrArg some (by kernel_rfl))
  f197 := Tryd.func25.trans (congrArg some (by kernel_rfl))
  f217 := Tryd.func43.trans (congrArg some (by kernel_rfl))
  f218 := Tryd.func38.trans (congrArg some (by kernel_rfl))
  f219 := Tryd.func39.trans (congrArg some (by kernel_rfl))
  f224 := Tryd.func45.trans (congrArg some (by kernel_rfl))
  f225 := Tryd.func44.trans (congrArg some (by kernel_rfl))
  f240 := Tryd.func23.trans (congrArg some (by kernel_rfl))
  f241 := Tryd.func24.trans (congrArg some (by kernel_rfl))
  f260 := Tryd.func34.trans (congrArg some (by kernel_rfl))
  f266 := Tryd.func47.trans (congrArg some (by kernel_rfl))
  f267 := Tryd.func46.trans (congrArg some (by kernel_rfl))
  f276 := Tryd.func32.trans (congrArg some (by kernel_rfl))
  f277 := Tryd.func33.trans (congrArg some (by kernel_rfl))
  f314 := Tryd.func48.trans (congrArg some (by kernel_rfl))
  t0 := Tryd.underlying0
  a0 := Tryd.isAgg0
  z0 := Tryd.sizeOf0
  v0 := Tryd.zeroValue0
  t3 := Tryd.underlying3
  a3 := Tryd.isAgg3
  z3 := Tryd.sizeOf3
  v3 := Tryd.zeroValue3
  t4 := Tryd.underlying4
  a4 := Tryd.isAgg4
  z4 := Tryd.sizeOf4
  v4 := Tryd.zeroValue4
  t5 := Tryd.underlying5
  a5 := Tryd.isAgg5
  z5 := Tryd.sizeOf5
  v5 := Tryd.zeroValue5
  t9 := Tryd.underlying9
  a9 := Tryd.isAgg9
  z9 := Tryd.sizeOf9
  v9 := Tryd.zeroValue9
  t20 := Tryd.underlying20
  a20 := Tryd.isAgg20
  z20 := Tryd.sizeOf20
  v20 := Tryd.zeroValue20
  t21 := Tryd.underlying21
  a21 := Tryd.isAgg21
  z21 := Tryd.sizeOf21
  v21 := Tryd.zeroValue21
  t37 := Tryd.underlying38
  a37 := Tryd.isAgg38
  z37 := Tryd.sizeOf38
  v37 := Tryd.zeroValue38
  t46 := Tryd.underlying102
  a46 := Tryd.isAgg102
  z46 := Tryd.sizeOf102
  v46 := Tryd.zeroValue102
  t51 := Tryd.underlying51
  a51 := Tryd.isAgg51
  z51 := Tryd.sizeOf51
  v51 := Tryd.zeroValue51
  t70 := Tryd.underlying70
  a70 := Tryd.isAgg70
  z70 := Tryd.sizeOf70
  v70 := Tryd.zeroValue70
  t72 := Tryd.underlying72
  a72 := Tryd.isAgg72
  z72 := Tryd.sizeOf72
  v72 := Tryd.zeroValue72
  t75 := Tryd.underlying60
  a75 := Tryd.isAgg60
  z75 := Tryd.sizeOf60
  v75 := Tryd.zeroValue60
  t76 := Tryd.underlying74
  a76 := Tryd.isAgg74
  z76 := Tryd.sizeOf74
  v76 := Tryd.zeroValue74
  t105 := Tryd.underlying85
  a105 := Tryd.isAgg85
  z105 := Tryd.sizeOf85
  v105 := Tryd.zeroValue85
  t119 := Tryd.underlying101
  a119 := Tryd.isAgg101
  z119 := Tryd.sizeOf101
  t127 := Tryd.underlying84
  a127 := Tryd.isAgg84
  z127 := Tryd.sizeOf84
  v127 := Tryd.zeroValue84
  t138 := Tryd.underlying104
  a138 := Tryd.isAgg104
  z138 := Tryd.sizeOf104
  v138 := Tryd.zeroValue104
  t139 := Tryd.underlying105
  a139 := Tryd.isAgg105
  z139 := Tryd.sizeOf105
  v139 := Tryd.zeroValue105
  t146 := Tryd.underlying114
  a146 := Tryd.isAgg114
  z146 := Tryd.sizeOf114
  v146 := Tryd.zeroValue114
  t164 := Tryd.underlying92
  a164 := Tryd.isAgg92
  z164 := Tryd.sizeOf92
  v164 := Tryd.zeroValue92
  g1 := by kernel_rfl
  g3 := by kernel_rfl
  g4 := by kernel_rfl
  t80 := Tryd.underlying77
  a80 := Tryd.isAgg77
  z80 := Tryd.sizeOf77
  v80 := Tryd.zeroValue77
  i0 := by kernel_rfl
  i3 := by kernel_rfl
  i4 := by kernel_rfl
  i5 := by kernel_rfl
  i9 := by kernel_rfl
  i20 := by kernel_rfl
  i21 := by kernel_rfl
  i37 := by kernel_rfl
  i46 := by kernel_rfl
  i51 := by kernel_rfl
  i70 := by kernel_rfl
  i72 := by kernel_rfl
  i75 := by kernel_rfl
  i76 := by kernel_rfl
  i80 := by kernel_rfl
  i105 := by kernel_rfl
  i127 := by kernel_rfl
  i138 := by kernel_rfl
  i139 := by kernel_rfl
  i146 := by kernel_rfl
  i164 := by kernel_rfl
  m1 := by kernel_rfl
  s1_3 := fun w h => Go.Proofs.cell_of_shapedOpen_int (zero := #[.int .i64 0]) (t := 3) h (of_decide_eq_true (by kernel_rfl)) (by kernel_rfl) rfl (by kernel_rfl) (by kernel_rfl) Tryd.underlying3
  m3 := by kernel_rfl
  m4 := by kernel_rfl }
theorem Tryd.Builder_Extra_M154 : Builder.Extra Tryd.prog Tryd.laysM154_ren := {
  sizeBuilder := by kernel_rfl
  liesBuilder := by kernel_rfl
  t5 := Tryd.underlying5
  a5 := Tryd.isAgg5
  z5 := Tryd.sizeOf5
  v5 := Tryd.zeroValue5
  infoByte := by kernel_rfl
  cellsByte := by kernel_rfl
  sizeByte := by kernel_rfl
  neB5 := by decide }
open Go.RowKit Go.Lib in

theorem Tryd.strings_Replace_shaped (s old new : ByteArray) (n : Int) (w : World) (h : w.ShapedOpen Tryd.prog) (hs : s.size < 4294967281) (h1 : 1 ≤ old.size) (hlen : s.size + Lib.countB s old * new.size ≤ 140737488355328) :
    Calls Tryd.prog 22 #[.string s, .string old, .string new, .int .i64 n] w fun e w' =>
      e = .returned (.string ⟨(Lib.replace s.data.toList old.data.toList new.data.toList n).toArray⟩) ∧ Below w.heap.size w w' := Any.strings_Replace_shaped Tryd.laysM154 Tryd.Builder_Extra_M154 s old new n w h hs h1 hlen
def Tryd.laysM155_ren : Go.Shelf.Ren := ⟨fun | 155 => 14 | 154 => 22 | 138 => 30 | 165 => 16 | 143 => 31 | 166 => 17 | 197 => 25 | 169 => 19 | 195 => 37 | 218 => 38 | 240 => 23 | 241 => 24 | 219 => 39 | 260 => 34 | 276 => 32 | 277 => 33 | 217 => 43 | 225 => 44 | 224 => 45 | 267 => 46 | 266 => 47 | 314 => 48 | n => n, fun | 9 => 9 | 3 => 3 | 4 => 4 | 72 => 72 | 0 => 0 | 76 => 74 | 105 => 85 | 21 => 21 | 5 => 5 | 70 => 70 | 20 => 20 | 37 => 38 | 75 => 60 | 127 => 84 | 164 => 92 | 46 => 102 | 119 => 101 | 139 => 105 | 138 => 104 | 146 => 114 | 51 => 51 | 80 => 77 | n => n, fun | 1 => 1 | 3 => 2 | 4 => 3 | n => n⟩
theorem Tryd.laysM155 : Go.Proofs.LaysM.n155 Tryd.prog Tryd.laysM155_ren := {
  mixed := by kernel_rfl
  f138 := Tryd.func30.trans (congrArg some (by kernel_rfl))
  f143 := Tryd.func31.trans (congrArg some (by kernel_rfl))
  f154 := Tryd.func22.trans (congrArg some (by kernel_rfl))
  f155 := Tryd.func14.trans (congrArg some (by kernel_rfl))
  f165 := Tryd.func16.trans (congrArg some (by kernel_rfl))
  f166 := Tryd.func17.trans (congrArg some (by kernel_rfl))
  f169 := Tryd.func19.trans (congrArg some (by kernel_rfl))
  f195 := Tryd.func37.trans (congrArg some (by kernel_rfl))
  f197 := Tryd.func25.trans (congrArg some (by kernel_rfl))
  f217 := Tryd.func43.trans (congrArg some (by kernel_rfl))
  f218 := Tryd.func38.trans (congrArg some (by kernel_rfl))
  f219 := Tryd.func39.trans (congrArg some (by kernel_rfl))
  f224 := Tryd.func45.trans (congrArg some (by kernel_rfl))
  f225 := Tryd.func44.trans (congrArg some (by kernel_rfl))
  f240 := Tryd.func23.trans (congrArg some (by kernel_rfl))
  f241 := Tryd.func24.trans (congrArg some (by kernel_rfl))
  f260 := Tryd.func34.trans (congrArg some (by kernel_rfl))
  f266 := Tryd.func47.trans (congrArg some (by kernel_rfl))
  f267 := Tryd.func46.trans (congrArg some (by kernel_rfl))
  f276 := Tryd.func32.trans (congrArg some (by kernel_rfl))
  f277 := Tryd.func33.trans (congrArg some (by kernel_rfl))
  f314 := Tryd.func48.trans (congrArg some (by kernel_rfl))
  t0 := Tryd.underlying0
  a0 := Tryd.isAgg0
  z0 := Tryd.sizeOf0
  v0 := Tryd.zeroValue0
  t3 := Tryd.underlying3
  a3 := Tryd.isAgg3
  z3 := Tryd.sizeOf3
  v3 := Tryd.zeroValue3
  t4 := Tryd.underlying4
  a4 := Tryd.isAgg4
  z4 := Tryd.sizeOf4
  v4 := Tryd.zeroValue4
  t5 := Tryd.underlying5
  a5 := Tryd.isAgg5
  z5 := Tryd.sizeOf5
  v5 := Tryd.zeroValue5
  t9 := Tryd.underlying9
  a9 := Tryd.isAgg9
  z9 := Tryd.sizeOf9
  v9 := Tryd.zeroValue9
  t20 := Tryd.underlying20
  a20 := Tryd.isAgg20
  z20 := Tryd.sizeOf20
  v20 := Tryd.zeroValue20
  t21 := Tryd.underlying21
  a21 := Tryd.isAgg21
  z21 := Tryd.sizeOf21
  v21 := Tryd.zeroValue21
  t37 := Tryd.underlying38
  a37 := Tryd.isAgg38
  z37 := Tryd.sizeOf38
  v37 := Tryd.zeroValue38
  t46 := Tryd.underlying102
  a46 := Tryd.isAgg102
  z46 := Tryd.sizeOf102
  v46 := Tryd.zeroValue102
  t51 := Tryd.underlying51
  a51 := Tryd.isAgg51
  z51 := Tryd.sizeOf51
  v51 := Tryd.zeroValue51
  t70 := Tryd.underlying70
  a70 := Tryd.isAgg70
  z70 := Tryd.sizeOf70
  v70 := Tryd.zeroValue70
  t72 := Tryd.underlying72
  a72 := Tryd.isAgg72
  z72 := Tryd.sizeOf72
  v72 := Tryd.zeroValue72
  t75 := Tryd.underlying60
  a75 := Tryd.isAgg60
  z75 := Tryd.sizeOf60
  v75 := Tryd.zeroValue60
  t76 := Tryd.underlying74
  a76 := Tryd.isAgg74
  z76 := Tryd.sizeOf74
  v76 := Tryd.zeroValue74
  t105 := Tryd.underlying85
  a105 := Tryd.isAgg85
  z105 := Tryd.sizeOf85
  v105 := Tryd.zeroValue85
  t119 := Tryd.underlying101
  a119 := Tryd.isAgg101
  z119 := Tryd.sizeOf101
  t127 := Tryd.underlying84
  a127 := Tryd.isAgg84
  z127 := Tryd.sizeOf84
  v127 := Tryd.zeroValue84
  t138 := Tryd.underlying104
  a138 := Tryd.isAgg104
  z138 := Tryd.sizeOf104
  v138 := Tryd.zeroValue104
  t139 := Tryd.underlying105
  a139 := Tryd.isAgg105
  z139 := Tryd.sizeOf105
  v139 := Tryd.zeroValue105
  t146 := Tryd.underlying114
  a146 := Tryd.isAgg114
  z146 := Tryd.sizeOf114
  v146 := Tryd.zeroValue114
  t164 := Tryd.underlying92
  a164 := Tryd.isAgg92
  z164 := Tryd.sizeOf92
  v164 := Tryd.zeroValue92
  g1 := by kernel_rfl
  g3 := by kernel_rfl
  g4 := by kernel_rfl
  t80 := Tryd.underlying77
  a80 := Tryd.isAgg77
  z80 := Tryd.sizeOf77
  v80 := Tryd.zeroValue77
  i0 := by kernel_rfl
  i3 := by kernel_rfl
  i4 := by kernel_rfl
  i5 := by kernel_rfl
  i9 := by kernel_rfl
  i20 := by kernel_rfl
  i21 := by kernel_rfl
  i37 := by kernel_rfl
  i46 := by kernel_rfl
  i51 := by kernel_rfl
  i70 := by kernel_rfl
  i72 := by kernel_rfl
  i75 := by kernel_rfl
  i76 := by kernel_rfl
  i80 := by kernel_rfl
  i105 := by kernel_rfl
  i127 := by kernel_rfl
  i138 := by kernel_rfl
  i139 := by kernel_rfl
  i146 := by kernel_rfl
  i164 := by kernel_rfl
  m1 := by kernel_rfl
  s1_3 := fun w h => Go.Proofs.cell_of_shapedOpen_int (zero := #[.int .i64 0]) (t := 3) h (of_decide_eq_true (by kernel_rfl)) (by kernel_rfl) rfl (by kernel_rfl) (by kernel_rfl) Tryd.underlying3
  m3 := by kernel_rfl
  m4 := by kernel_rfl }
theorem Tryd.Builder_Extra_M155 : Builder.Extra Tryd.prog Tryd.laysM155_ren := {
  sizeBuilder := by kernel_rfl
  liesBuilder := by kernel_rfl
  t5 := Tryd.underlying5
  a5 := Tryd.isAgg5
  z5 := Tryd.sizeOf5
  v5 := Tryd.zeroValue5
  infoByte := by kernel_rfl
  cellsByte := by kernel_rfl
  sizeByte := by kernel_rfl
  neB5 := by decide }
open Go.RowKit Go.Lib in

theorem Tryd.strings_ReplaceAll_shaped (s old new : ByteArray) (w : World) (h : w.ShapedOpen Tryd.prog) (hs : s.size < 4294967281) (h1 : 1 ≤ old.size) (hlen : s.size + Lib.countB s old * new.size ≤ 140737488355328) :
    Calls Tryd.prog 14 #[.string s, .string old, .string new] w fun e w' =>
      e = .returned (.string ⟨(Lib.replaceAll s.data.toList old.data.toList new.data.toList).toArray⟩) ∧ Below w.heap.size w w' := Any.strings_ReplaceAll_shaped Tryd.laysM155 Tryd.Builder_Extra_M155 s old new w h hs h1 hlen
def Tryd.lays204_ren : Go.Shelf.Ren := ⟨fun | 204 => 21 | 262 => 29 | 313 => 36 | 274 => 41 | 275 => 42 | n => n, fun | 21 => 21 | 4 => 4 | 3 => 3 | 162 => 98 | 203 => 96 | 160 => 106 | 46 => 102 | 0 => 0 | 208 => 113 | 51 => 51 | 206 => 111 | n => n, fun | 13 => 0 | n => n⟩
theorem Tryd.lays204 : Go.Proofs.Lays.n204 Tryd.prog Tryd.lays204_ren := {
  mixed := by kernel_rfl
  f204 := Tryd.func21.trans (congrArg some (by kernel_rfl))
  f262 := Tryd.func29.trans (congrArg some (by kernel_rfl))
  f274 := Tryd.func41.trans (congrArg some (by kernel_rfl))
  f275 := Tryd.func42.trans (congrArg some (by kernel_rfl))
  f313 := Tryd.func36.trans (congrArg some (by kernel_rfl))
  t0 := Tryd.underlying0
  a0 := Tryd.isAgg0
  z0 := Tryd.sizeOf0
  v0 := Tryd.zeroValue0
  t3 := Tryd.underlying3
  a3 := Tryd.isAgg3
  z3 := Tryd.sizeOf3
  v3 := Tryd.zeroValue3
  t4 := Tryd.underlying4
  a4 := Tryd.isAgg4
  z4 := Tryd.sizeOf4
  v4 := Tryd.zeroValue4
  t21 := Tryd.underlying21
  a21 := Tryd.isAgg21
  z21 := Tryd.sizeOf21
  v21 := Tryd.zeroValue21
  t46 := Tryd.underlying102
  a46 := Tryd.isAgg102
  z46 := Tryd.sizeOf102
  v46 := Tryd.zeroValue102
  t51 := Tryd.underlying51
  a51 := Tryd.isAgg51
  z51 := Tryd.sizeOf51
  v51 := Tryd.zeroValue51
  t160 := Tryd.underlying106
  a160 := Tryd.isAgg106
  z160 := Tryd.sizeOf106
  v160 := Tryd.zeroValue106
  t162 := Tryd.underlying98
  a162 := Tryd.isAgg98
  z162 := Tryd.sizeOf98
  v162 := Tryd.zeroValue98
  t203 := Tryd.underlying96
  a203 := Tryd.isAgg96
  z203 := Tryd.sizeOf96
  v203 := Tryd.zeroValue96
  t206 := Tryd.underlying111
  a206 := Tryd.isAgg111
  z206 := Tryd.sizeOf111
  v206 := Tryd.zeroValue111
  t208 := Tryd.underlying113
  a208 := Tryd.isAgg113
  z208 := Tryd.sizeOf113
  v208 := Tryd.zeroValue113
  g13 := by kernel_rfl }
open Go.RowKit Go.Lib in
theorem Tryd.unicode_ToLower (r : Int) (w : World) (h : r ≤ 127) :
    Calls Tryd.prog 21 #[.int .i32 r] w fun e w' => e = .returned (.int .i32 (Lib.toLowerR r)) ∧ w' = w := Any.unicode_ToLower Tryd.lays204 r w h
def Tryd.lays197_ren : Go.Shelf.Ren := ⟨fun | 197 => 25 | 260 => 34 | n => n, fun | 9 => 9 | 21 => 21 | 3 => 3 | 4 => 4 | 5 => 5 | 105 => 85 | 119 => 101 | 0 => 0 | 46 => 102 | 139 => 105 | 138 => 104 | n => n, fun | 3 => 2 | 4 => 3 | n => n⟩
theorem Tryd.lays197 : Go.Proofs.Lays.n197 Tryd.prog Tryd.lays197_ren := {
  mixed := by kernel_rfl
  f197 := Tryd.func25.trans (congrArg some (by kernel_rfl))
  f260 := Tryd.func34.trans (congrArg some (by kernel_rfl))
  t0 := Tryd.underlying0
  a0 := Tryd.isAgg0
  z0 := Tryd.sizeOf0
  v0 := Tryd.zeroValue0
  t3 := Tryd.underlying3
  a3 := Tryd.isAgg3
  z3 := Tryd.sizeOf3
  v3 := Tryd.zeroValue3
  t4 := Tryd.underlying4
  a4 := Tryd.isAgg4
  z4 := Tryd.sizeOf4
  v4 := Tryd.zeroValue4
  t5 := Tryd.underlying5
  a5 := Tryd.isAgg5
  z5 := Tryd.sizeOf5
  v5 := Tryd.zeroValue5
  t9 := Tryd.underlying9
  a9 := Tryd.isAgg9
  z9 := Tryd.sizeOf9
  v9 := Tryd.zeroValue9
  t21 := Tryd.underlying21
  a21 := Tryd.isAgg21
  z21 := Tryd.sizeOf21
  v21 := Tryd.zeroValue21
  t46 := Tryd.underlying102
  a46 := Tryd.isAgg102
  z46 := Tryd.sizeOf102
  v46 := Tryd.zeroValue102
  t105 := Tryd.underlying85
  a105 := Tryd.isAgg85
  z105 := Tryd.sizeOf85
  v105 := Tryd.zeroValue85
  t119 := Tryd.underlying101
  a119 := Tryd.isAgg101
  z119 := Tryd.sizeOf101
  t138 := Tryd.underlying104
  a138 := Tryd.isAgg104
  z138 := Tryd.sizeOf104
  v138 := Tryd.zeroValue104
  t139 := Tryd.underlying105
  a139 := Tryd.isAgg105
  z139 := Tryd.sizeOf105
  v139 := Tryd.zeroValue105
  g3 := by kernel_rfl
  g4 := by kernel_rfl }
open Go.RowKit Go.Lib in

theorem Tryd.utf8_DecodeRuneInString_ascii (s : ByteArray) (x : UInt8) (w : World) (h0 : s.data.toList[0]? = some x) (hx : x.toNat < 128) :
    Calls Tryd.prog 25 #[.string s] w fun e w' => e = .returned (.tuple #[.int .i32 x.toNat, .int .i64 1]) ∧ w' = w := Any.utf8_DecodeRuneInString_ascii Tryd.lays197 s x w h0 hx
open Go.RowKit Go.Lib in
theorem Tryd.utf8_RuneCountInString_ascii (s : ByteArray) (w : World) (hs : s.size < 4294967281) (hascii : ∀ (j : Nat) b, s.data.toList[j]? = some b → b.toNat < 128) :
    Calls Tryd.prog 37 #[.string s] w fun e w' => e = .returned (.int .i64 s.size) ∧ w' = w.iter s s.size := Any.utf8_RuneCountInString_ascii Tryd.lays195 s w hs hascii
def Tryd.lays260_ren : Go.Shelf.Ren := ⟨fun | 260 => 34 | n => n, fun | 9 => 9 | 21 => 21 | 3 => 3 | 4 => 4 | 5 => 5 | 119 => 101 | 0 => 0 | 46 => 102 | 139 => 105 | 138 => 104 | n => n, fun | 3 => 2 | 4 => 3 | n => n⟩
theorem Tryd.lays260 : Go.Proofs.Lays.n260 Tryd.prog Tryd.lays260_ren := {
  mixed := by kernel_rfl
  f260 := Tryd.func34.trans (congrArg some (by kernel_rfl))
  t0 := Tryd.underlying0
  a0 := Tryd.isAgg0
  z0 := Tryd.sizeOf0
  v0 := Tryd.zeroValue0
  t3 := Tryd.underlying3
  a3 := Tryd.isAgg3
  z3 := Tryd.sizeOf3
  v3 := Tryd.zeroValue3
  t4 := Tryd.underlying4
  a4 := Tryd.isAgg4
  z4 := Tryd.sizeOf4
  v4 := Tryd.zeroValue4
  t5 := Tryd.underlying5
  a5 := Tryd.isAgg5
  z5 := Tryd.sizeOf5
  v5 := Tryd.zeroValue5
  t9 := Tryd.underlying9
  a9 := Tryd.isAgg9
  z9 := Tryd.sizeOf9
  v9 := Tryd.zeroValue9
  t21 := Tryd.underlying21
  a21 := Tryd.isAgg21
  z21 := Tryd.sizeOf21
  v21 := Tryd.zeroValue21
  t46 := Tryd.underlying102
  a46 := Tryd.isAgg102
  z46 := Tryd.sizeOf102
  v46 := Tryd.zeroValue102
  t119 := Tryd.underlying101
  a119 := Tryd.isAgg101
  z119 := Tryd.sizeOf101
  t138 := Tryd.underlying104
  a138 := Tryd.isAgg104
  z138 := Tryd.sizeOf104
  v138 := Tryd.zeroValue104
  t139 := Tryd.underlying105
  a139 := Tryd.isAgg105
  z139 := Tryd.sizeOf105
  v139 := Tryd.zeroValue105
  g3 := by kernel_rfl
  g4 := by kernel_rfl }
open Go.RowKit Go.Lib in
theorem Tryd.utf8_decodeRuneInStringSlow (s : ByteArray) (w : World) (hT : Lib.Utf8Tabs 2 3 w) :
    Calls Tryd.prog 34 #[.string s] w fun e w' => e = .returned (.tuple #[.int .i32 (Lib.decodeGo s).1, .int .i64 (Lib.decodeGo s).2]) ∧ Below w.heap.size w w' := Any.utf8_decodeRuneInStringSlow Tryd.lays260 s w hT
open Go.RowKit Go.Lib in

theorem Tryd.utf8_DecodeRuneInString (s : ByteArray) (w : World) (hT : Lib.Utf8Tabs 2 3 w) :
    Calls Tryd.prog 25 #[.string s] w fun e w' => e = .returned (.tuple #[.int .i32 (Lib.decodeGo s).1, .int .i64 (Lib.decodeGo s).2]) ∧ Below w.heap.size w w' := Any.utf8_DecodeRuneInString Tryd.lays197 s w hT
def Tryd.lays274_ren : Go.Shelf.Ren := ⟨fun | 274 => 41 | n => n, fun | 21 => 21 | 162 => 98 | 160 => 106 | 3 => 3 | 4 => 4 | 46 => 102 | 0 => 0 | 208 => 113 | 51 => 51 | 206 => 111 | n => n, fun | n => n⟩
theorem Tryd.lays274 : Go.Proofs.Lays.n274 Tryd.prog Tryd.lays274_ren := {
  mixed := by kernel_rfl
  f274 := Tryd.func41.trans (congrArg some (by kernel_rfl))
  t0 := Tryd.underlying0
  a0 := Tryd.isAgg0
  z0 := Tryd.sizeOf0
  v0 := Tryd.zeroValue0
  t3 := Tryd.underlying3
  a3 := Tryd.isAgg3
  z3 := Tryd.sizeOf3
  v3 := Tryd.zeroValue3
  t4 := Tryd.underlying4
  a4 := Tryd.isAgg4
  z4 := Tryd.sizeOf4
  v4 := Tryd.zeroValue4
  t21 := Tryd.underlying21
  a21 := Tryd.isAgg21
  z21 := Tryd.sizeOf21
  v21 := Tryd.zeroValue21
  t46 := Tryd.underlying102
  a46 := Tryd.isAgg102
  z46 := Tryd.sizeOf102
  v46 := Tryd.zeroValue102
  t51 := Tryd.underlying51
  a51 := Tryd.isAgg51
  z51 := Tryd.sizeOf51
  v51 := Tryd.zeroValue51
  t160 := Tryd.underlying106
  a160 := Tryd.isAgg106
  z160 := Tryd.sizeOf106
  v160 := Tryd.zeroValue106
  t162 := Tryd.underlying98
  a162 := Tryd.isAgg98
  z162 := Tryd.sizeOf98
  v162 := Tryd.zeroValue98
  t208 := Tryd.underlying113
  a208 := Tryd.isAgg113
  z208 := Tryd.sizeOf113
  v208 := Tryd.zeroValue113 }
open Go.RowKit Go.Lib in
theorem Tryd.unicode_lookupCaseRange (T : Array CaseRow) (R oR cap : Nat) (r : Int) (w : World) (hT : CaseTab R oR T w) (hok : CaseOk T) (hn : T.size ≤ 1000000000) :
    Calls Tryd.prog 41 #[.int .i32 r, .slice (some ⟨R, oR, none⟩) T.size cap] w fun e w' =>
      e = .returned (match lookupIdx T r (T.size + 1) 0 T.size with | some i => .pointer (some ⟨R, oR + i * 5, none⟩) | none => .pointer none) ∧ w' = w := Any.unicode_lookupCaseRange Tryd.lays274 T R oR cap r w hT hok hn
def Tryd.lays275_ren : Go.Shelf.Ren := ⟨fun | 275 => 42 | n => n, fun | 3 => 3 | 21 => 21 | 160 => 106 | 0 => 0 | 208 => 113 | 206 => 111 | 4 => 4 | 51 => 51 | n => n, fun | n => n⟩
theorem Tryd.lays275 : Go.Proofs.Lays.n275 Tryd.prog Tryd.lays275_ren := {
  mixed := by kernel_rfl
  f275 := Tryd.func42.trans (congrArg some (by kernel_rfl))
  t0 := Tryd.underlying0
  a0 := Tryd.isAgg0
  z0 := Tryd.sizeOf0
  v0 := Tryd.zeroValue0
  t3 := Tryd.underlying3
  a3 := Tryd.isAgg3
  z3 := Tryd.sizeOf3
  v3 := Tryd.zeroValue3
  t4 := Tryd.underlying4
  a4 := Tryd.isAgg4
  z4 := Tryd.sizeOf4
  v4 := Tryd.zeroValue4
  t21 := Tryd.underlying21
  a21 := Tryd.isAgg21
  z21 := Tryd.sizeOf21
  v21 := Tryd.zeroValue21
  t51 := Tryd.underlying51
  a51 := Tryd.isAgg51
  z51 := Tryd.sizeOf51
  v51 := Tryd.zeroValue51
  t160 := Tryd.underlying106
  a160 := Tryd.isAgg106
  z160 := Tryd.sizeOf106
  v160 := Tryd.zeroValue106
  t206 := Tryd.underlying111
  a206 := Tryd.isAgg111
  z206 := Tryd.sizeOf111
  v206 := Tryd.zeroValue111
  t208 := Tryd.underlying113
  a208 := Tryd.isAgg113
  z208 := Tryd.sizeOf113
  v208 := Tryd.zeroValue113 }
open Go.RowKit Go.Lib in
theorem Tryd.unicode_convertCase (c : Nat) (hc : c < 3) (r : Int) (A o : Nat) (x : CaseRow) (w : World) (hlo : (x.1 : Int) ≤ r) (hhi : r ≤ (x.2.1 : Int)) (hH : x.2.1 < 2147483647) (c0 : w.cell? ⟨A, o, none⟩ = some (.int .u32 x.1)) (cD : w.cell? ⟨A, o + 2 + c, none⟩ = some (.int .i32 (x.delta c))) :
    Calls Tryd.prog 42 #[.int .i64 c, .int .i32 r, .pointer (some ⟨A, o, none⟩)] w fun e w' => e = .returned (.int .i32 (wrap32 (convertR c r x))) ∧ ∃ q, w' = w.drewN q := Any.unicode_convertCase Tryd.lays275 c hc r A o x w hlo hhi hH c0 cD
def Tryd.lays313_ren : Go.Shelf.Ren := ⟨fun | 313 => 36 | 274 => 41 | 275 => 42 | n => n, fun | 3 => 3 | 21 => 21 | 162 => 98 | 4 => 4 | 160 => 106 | 46 => 102 | 0 => 0 | 208 => 113 | 51 => 51 | 206 => 111 | n => n, fun | n => n⟩
theorem Tryd.lays313 : Go.Proofs.Lays.n313 Tryd.prog Tryd.lays313_ren := {
  mixed := by kernel_rfl
  f274 := Tryd.func41.trans (congrArg some (by kernel_rfl))
  f275 := Tryd.func42.trans (congrArg some (by kernel_rfl))
  f313 := Tryd.func36.trans (congrArg some (by kernel_rfl))
  t0 := Tryd.underlying0
  a0 := Tryd.isAgg0
  z0 := Tryd.sizeOf0
  v0 := Tryd.zeroValue0
  t3 := Tryd.underlying3
  a3 := Tryd.isAgg3
  z3 := Tryd.sizeOf3
  v3 := Tryd.zeroValue3
  t4 := Tryd.underlying4
  a4 := Tryd.isAgg4
  z4 := Tryd.sizeOf4
  v4 := Tryd.zeroValue4
  t21 := Tryd.underlying21
  a21 := Tryd.isAgg21
  z21 := Tryd.sizeOf21
  v21 := Tryd.zeroValue21
  t46 := Tryd.underlying102
  a46 := Tryd.isAgg102
  z46 := Tryd.sizeOf102
  v46 := Tryd.zeroValue102
  t51 := Tryd.underlying51
  a51 := Tryd.isAgg51
  z51 := Tryd.sizeOf51
  v51 := Tryd.zeroValue51
  t160 := Tryd.underlying106
  a160 := Tryd.isAgg106
  z160 := Tryd.sizeOf106
  v160 := Tryd.zeroValue106
  t162 := Tryd.underlying98
  a162 := Tryd.isAgg98
  z162 := Tryd.sizeOf98
  v162 := Tryd.zeroValue98
  t206 := Tryd.underlying111
  a206 := Tryd.isAgg111
  z206 := Tryd.sizeOf111
  v206 := Tryd.zeroValue111
  t208 := Tryd.underlying113
  a208 := Tryd.isAgg113
  z208 := Tryd.sizeOf113
  v208 := Tryd.zeroValue113 }
open Go.RowKit Go.Lib in
theorem Tryd.unicode_to (c : Nat) (hc : c < 3) (r : Int) (T : Array CaseRow) (R oR cap : Nat) (w : World) (hT : CaseTab R oR T w) (hok : CaseOk2 T) (hn : T.size ≤ 1000000000) :
    Calls Tryd.prog 36 #[.int .i64 c, .int .i32 r, .slice (some ⟨R, oR, none⟩) T.size cap] w fun e w' => e = .returned (.tuple #[.int .i32 (toW T c r), .bool (lookupIdx T r (T.size + 1) 0 T.size).isSome]) ∧ ∃ q, w' = w.drewN q := Any.unicode_to Tryd.lays313 c hc r T R oR cap w hT hok hn
def Tryd.lays262_ren : Go.Shelf.Ren := ⟨fun | 262 => 29 | 313 => 36 | 274 => 41 | 275 => 42 | n => n, fun | 3 => 3 | 21 => 21 | 162 => 98 | 203 => 96 | 4 => 4 | 160 => 106 | 46 => 102 | 0 => 0 | 208 => 113 | 51 => 51 | 206 => 111 | n => n, fun | 13 => 0 | n => n⟩
theorem Tryd.lays262 : Go.Proofs.Lays.n262 Tryd.prog Tryd.lays262_ren := {
  mixed := by kernel_rfl
  f262 := Tryd.func29.trans (congrArg some (by kernel_rfl))
  f274 := Tryd.func41.trans (congrArg some (by kernel_rfl))
  f275 := Tryd.func42.trans (congrArg some (by kernel_rfl))
  f313 := Tryd.func36.trans (congrArg some (by kernel_rfl))
  t0 := Tryd.underlying0
  a0 := Tryd.isAgg0
  z0 := Tryd.sizeOf0
  v0 := Tryd.zeroValue0
  t3 := Tryd.underlying3
  a3 := Tryd.isAgg3
  z3 := Tryd.sizeOf3
  v3 := Tryd.zeroValue3
  t4 := Tryd.underlying4
  a4 := Tryd.isAgg4
  z4 := Tryd.sizeOf4
  v4 := Tryd.zeroValue4
  t21 := Tryd.underlying21
  a21 := Tryd.isAgg21
  z21 := Tryd.sizeOf21
  v21 := Tryd.zeroValue21
  t46 := Tryd.underlying102
  a46 := Tryd.isAgg102
  z46 := Tryd.sizeOf102
  v46 := Tryd.zeroValue102
  t51 := Tryd.underlying51
  a51 := Tryd.isAgg51
  z51 := Tryd.sizeOf51
  v51 := Tryd.zeroValue51
  t160 := Tryd.underlying106
  a160 := Tryd.isAgg106
  z160 := Tryd.sizeOf106
  v160 := Tryd.zeroValue106
  t162 := Tryd.underlying98
  a162 := Tryd.isAgg98
  z162 := Tryd.sizeOf98
  v162 := Tryd.zeroValue98
  t203 := Tryd.underlying96
  a203 := Tryd.isAgg96
  z203 := Tryd.sizeOf96
  v203 := Tryd.zeroValue96
  t206 := Tryd.underlying111
  a206 := Tryd.isAgg111
  z206 := Tryd.sizeOf111
  v206 := Tryd.zeroValue111
  t208 := Tryd.underlying113
  a208 := Tryd.isAgg113
  z208 := Tryd.sizeOf113
  v208 := Tryd.zeroValue113
  g13 := by kernel_rfl }
open Go.RowKit Go.Lib in
theorem Tryd.unicode_To (c : Nat) (hc : c < 3) (r : Int) (T : Array CaseRow) (w : World) (hV : CaseVar 0 T w) (hok : CaseOk2 T) (hn : T.size ≤ 1000000000) :
    Calls Tryd.prog 29 #[.int .i64 c, .int .i32 r] w fun e w' => e = .returned (.int .i32 (toW T c r)) ∧ ∃ q, w' = w.drewN q := Any.unicode_To Tryd.lays262 c hc r T w hV hok hn
open Go.RowKit Go.Lib in
theorem Tryd.unicode_ToLower_any (r : Int) (T : Array CaseRow) (w : World) (hV : CaseVar 0 T w) (hok : CaseOk2 T) (hn : T.size ≤ 1000000000) :
    Calls Tryd.prog 21 #[.int .i32 r] w fun e w' => e = .returned (.int .i32 (Lib.toLowerW T r)) ∧ ∃ q, w' = w.drewN q := Any.unicode_ToLower_any Tryd.lays204 r T w hV hok hn
open Go.RowKit Go.Lib in
theorem Tryd.unicode_ToLower_laid (r : Int) (w : World) (hV : CaseVar 0 caseA w) :
    Calls Tryd.prog 21 #[.int .i32 r] w fun e w' => e = .returned (.int .i32 (toLowerU r)) ∧ ∃ q, w' = w.drewN q := Any.unicode_ToLower_laid Tryd.lays204 r w hV
def Tryd.lays270_ren : Go.Shelf.Ren := ⟨fun | 270 => 28 | n => n, fun | 70 => 70 | 3 => 3 | 0 => 0 | 72 => 72 | 37 => 38 | 5 => 5 | n => n, fun | n => n⟩
theorem Tryd.lays270 : Go.Proofs.Lays.n270 Tryd.prog Tryd.lays270_ren := {
  mixed := by kernel_rfl
  f270 := Tryd.func28.trans (congrArg some (by kernel_rfl))
  t0 := Tryd.underlying0
  a0 := Tryd.isAgg0
  z0 := Tryd.sizeOf0
  v0 := Tryd.zeroValue0
  t3 := Tryd.underlying3
  a3 := Tryd.isAgg3
  z3 := Tryd.sizeOf3
  v3 := Tryd.zeroValue3
  t37 := Tryd.underlying38
  a37 := Tryd.isAgg38
  z37 := Tryd.sizeOf38
  v37 := Tryd.zeroValue38
  t70 := Tryd.underlying70
  a70 := Tryd.isAgg70
  z70 := Tryd.sizeOf70
  v70 := Tryd.zeroValue70
  t72 := Tryd.underlying72
  a72 := Tryd.isAgg72
  z72 := Tryd.sizeOf72
  v72 := Tryd.zeroValue72 }
open Go.RowKit Go.Lib in

theorem Tryd.Builder_Cap_cell (b : Nat) (p : Option Addr) (n cap : Nat) (w : World) (c1 : w.cell? ⟨b, 1, none⟩ = some (.slice p n cap)) :
    Calls Tryd.prog 28 #[.pointer (some ⟨b, 0, none⟩)] w fun e w' => e = .returned (.int .i64 cap) ∧ w' = w := Any.Builder_Cap_cell Tryd.lays270 b p n cap w c1
def Tryd.lays230_ren : Go.Shelf.Ren := ⟨fun | 230 => 20 | 197 => 25 | 118 => 26 | 165 => 16 | 166 => 17 | 168 => 27 | 270 => 28 | 167 => 18 | 169 => 19 | 260 => 34 | 240 => 23 | 241 => 24 | 242 => 35 | 276 => 32 | 277 => 33 | 278 => 40 | n => n, fun | 107 => 79 | 9 => 9 | 72 => 72 | 0 => 0 | 4 => 4 | 3 => 3 | 21 => 21 | 105 => 85 | 76 => 74 | 5 => 5 | 75 => 60 | 70 => 70 | 20 => 20 | 37 => 38 | 127 => 84 | 119 => 101 | 46 => 102 | 139 => 105 | 138 => 104 | 164 => 92 | 51 => 51 | 80 => 77 | n => n, fun | 3 => 2 | 4 => 3 | n => n⟩
theorem Tryd.lays230 : Go.Proofs.Lays.n230 Tryd.prog Tryd.lays230_ren := {
  mixed := by kernel_rfl
  f118 := Tryd.func26.trans (congrArg some (by kernel_rfl))
  f165 := Tryd.func16.trans (congrArg some (by kernel_rfl))
  f166 := Tryd.func17.trans (congrArg some (by kernel_rfl))
  f167 := Tryd.func18.trans (congrArg some (by kernel_rfl))
  f168 := Tryd.func27.trans (congrArg some (by kernel_rfl))
  f169 := Tryd.func19.trans (congrArg some (by kernel_rfl))
  f197 := Tryd.func25.trans (congrArg some (by kernel_rfl))
  f230 := Tryd.func20.trans (congrArg some (by kernel_rfl))
  f240 := Tryd.func23.trans (congrArg some (by kernel_rfl))
  f241 := Tryd.func24.trans (congrArg some (by kernel_rfl))
  f242 := Tryd.func35.trans (congrArg some (by kernel_rfl))
  f260 := Tryd.func34.trans (congrArg some (by kernel_rfl))
  f270 := Tryd.func28.trans (congrArg some (by kernel_rfl))
  f276 := Tryd.func32.trans (congrArg some (by kernel_rfl))
  f277 := Tryd.func33.trans (congrArg some (by kernel_rfl))
  f278 := Tryd.func40.trans (congrArg some (by kernel_rfl))
  t0 := Tryd.underlying0
  a0 := Tryd.isAgg0
  z0 := Tryd.sizeOf0
  v0 := Tryd.zeroValue0
  t3 := Tryd.underlying3
  a3 := Tryd.isAgg3
  z3 := Tryd.sizeOf3
  v3 := Tryd.zeroValue3
  t4 := Tryd.underlying4
  a4 := Tryd.isAgg4
  z4 := Tryd.sizeOf4
  v4 := Tryd.zeroValue4
  t5 := Tryd.underlying5
  a5 := Tryd.isAgg5
  z5 := Tryd.sizeOf5
  v5 := Tryd.zeroValue5
  t9 := Tryd.underlying9
  a9 := Tryd.isAgg9
  z9 := Tryd.sizeOf9
  v9 := Tryd.zeroValue9
  t20 := Tryd.underlying20
  a20 := Tryd.isAgg20
  z20 := Tryd.sizeOf20
  v20 := Tryd.zeroValue20
  t21 := Tryd.underlying21
  a21 := Tryd.isAgg21
  z21 := Tryd.sizeOf21
  v21 := Tryd.zeroValue21
  t37 := Tryd.underlying38
  a37 := Tryd.isAgg38
  z37 := Tryd.sizeOf38
  v37 := Tryd.zeroValue38
  t46 := Tryd.underlying102
  a46 := Tryd.isAgg102
  z46 := Tryd.sizeOf102
  v46 := Tryd.zeroValue102
  t51 := Tryd.underlying51
  a51 := Tryd.isAgg51
  z51 := Tryd.sizeOf51
  v51 := Tryd.zeroValue51
  t70 := Tryd.underlying70
  a70 := Tryd.isAgg70
  z70 := Tryd.sizeOf70
  v70 := Tryd.zeroValue70
  t72 := Tryd.underlying72
  a72 := Tryd.isAgg72
  z72 := Tryd.sizeOf72
  v72 := Tryd.zeroValue72
  t75 := Tryd.underlying60
  a75 := Tryd.isAgg60
  z75 := Tryd.sizeOf60
  v75 := Tryd.zeroValue60
  t76 := Tryd.underlying74
  a76 := Tryd.isAgg74
  z76 := Tryd.sizeOf74
  v76 := Tryd.zeroValue74
  t105 := Tryd.underlying85
  a105 := Tryd.isAgg85
  z105 := Tryd.sizeOf85
  v105 := Tryd.zeroValue85
  t107 := Tryd.underlying79
  a107 := Tryd.isAgg79
  z107 := Tryd.sizeOf79
  v107 := Tryd.zeroValue79
  t119 := Tryd.underlying101
  a119 := Tryd.isAgg101
  z119 := Tryd.sizeOf101
  t127 := Tryd.underlying84
  a127 := Tryd.isAgg84
  z127 := Tryd.sizeOf84
  v127 := Tryd.zeroValue84
  t138 := Tryd.underlying104
  a138 := Tryd.isAgg104
  z138 := Tryd.sizeOf104
  v138 := Tryd.zeroValue104
  t139 := Tryd.underlying105
  a139 := Tryd.isAgg105
  z139 := Tryd.sizeOf105
  v139 := Tryd.zeroValue105
  t164 := Tryd.underlying92
  a164 := Tryd.isAgg92
  z164 := Tryd.sizeOf92
  v164 := Tryd.zeroValue92
  g3 := by kernel_rfl
  g4 := by kernel_rfl }
theorem Tryd.Builder_Extra_230 : Builder.Extra Tryd.prog Tryd.lays230_ren := {
  sizeBuilder := by kernel_rfl
  liesBuilder := by kernel_rfl
  t5 := Tryd.underlying5
  a5 := Tryd.isAgg5
  z5 := Tryd.sizeOf5
  v5 := Tryd.zeroValue5
  infoByte := by kernel_rfl
  cellsByte := by kernel_rfl
  sizeByte := by kernel_rfl
  neB5 := by decide }
open Go.RowKit Go.Lib in
theorem Tryd.strings_Map_runes (g : Nat) (lb : Array Value) (eg : ∀ args w, (callFunc g args).run Tryd.prog w = .ok (.enter g args) w) (f : Int → Int) (s : ByteArray) (w : World) (hs : s.size < 35184372088832) (hf : MapAtRunes Tryd.prog g lb f w) (hnn : ∀ x : Nat, x ≤ 1114111 → 0 ≤ f x ∧ f x ≤ 2147483647) (hT : Lib.Utf8Tabs 2 3 w) :
    Calls Tryd.prog 20 #[.func (.func g) #[] lb, .string s] w fun e w' => e = .returned (.string ⟨(Lib.mapD f s.data.toList).toArray⟩) ∧ Below w.heap.size w w' := Any.strings_Map_runes Tryd.lays230 Tryd.Builder_Extra_230 g lb eg f s w hs hf hnn hT
open Go.RowKit Go.Lib in
theorem Tryd.strings_ToLower_beyond (s : ByteArray) (w : World) (hs : s.size < 35184372088832) (hhigh : ∃ (j : Nat) (b : UInt8), s.data.toList[j]? = some b ∧ 128 ≤ b.toNat) (hV : CaseVar 0 caseA w) (hT : Lib.Utf8Tabs 2 3 w) :
    Calls Tryd.prog 13 #[.string s] w fun e w' => e = .returned (.string ⟨(Lib.toLowerD s.data.toList).toArray⟩) ∧ Below w.heap.size w w' := Any.strings_ToLower_beyond Tryd.lays159 Tryd.Builder_Extra_159 s w hs hhigh hV hT
open Go.RowKit Go.Lib in

theorem Tryd.strings_ToLower_any (s : ByteArray) (w : World) (hs : s.size < 35184372088832) (hV : CaseVar 0 caseA w) (hT : Lib.Utf8Tabs 2 3 w) :
    Calls Tryd.prog 13 #[.string s] w fun e w' => e = .returned (.string ⟨(Lib.toLowerD s.data.toList).toArray⟩) ∧ Below w.heap.size w w' := Any.strings_ToLower_any Tryd.lays159 Tryd.Builder_Extra_159 s w hs hV hT
end Go.Proofs
