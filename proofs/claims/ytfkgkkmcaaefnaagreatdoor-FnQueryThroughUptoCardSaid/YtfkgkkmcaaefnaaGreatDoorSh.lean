/-
  THE SHELF's CONTRACTS that these proofs use, laid over this program by the kit's own command in its plain mode (lay-shelf.mjs, lay-plain.mjs), and sifted.
-/
import Derived.Shelf.Strings.Builder1
import Derived.Shelf.Strings.Builder2
import Derived.Shelf.Strings.OnBuilder
import Derived.Shelf.Strings.LastIndex
import Derived.Shelf.Strings.Prefix
import Derived.Test.YtfkgkkmcaaefnaaGreatDoorProg
namespace Go.Proofs
open Go.Shelf
def Tryz.lays170_ren : Go.Shelf.Ren := ⟨fun | 170 => 68 | n => n, fun | 70 => 88 | 3 => 3 | 0 => 0 | 72 => 91 | 37 => 89 | 5 => 5 | n => n, fun | n => n⟩
theorem Tryz.lays170 : Go.Proofs.Lays.n170 Tryz.prog Tryz.lays170_ren := {
  mixed := by kernel_rfl
  f170 := Tryz.func68.trans (congrArg some (by kernel_rfl))
  t0 := Tryz.underlying0
  a0 := Tryz.isAgg0
  z0 := Tryz.sizeOf0
  v0 := Tryz.zeroValue0
  t3 := Tryz.underlying3
  a3 := Tryz.isAgg3
  z3 := Tryz.sizeOf3
  v3 := Tryz.zeroValue3
  t37 := Tryz.underlying89
  a37 := Tryz.isAgg89
  z37 := Tryz.sizeOf89
  v37 := Tryz.zeroValue89
  t70 := Tryz.underlying88
  a70 := Tryz.isAgg88
  z70 := Tryz.sizeOf88
  v70 := Tryz.zeroValue88
  t72 := Tryz.underlying91
  a72 := Tryz.isAgg91
  z72 := Tryz.sizeOf91
  v72 := Tryz.zeroValue91 }
open Go.RowKit in
theorem Tryz.Builder_Len (B b : Nat) (bs : List Value) (w : World) (h : Lib.IsBuilder 91 5 B b bs w) :
    Calls Tryz.prog 68 #[.pointer (some ⟨b, 0, none⟩)] w fun e w' => e = .returned (.int .i64 bs.length) ∧ w' = w := Any.Builder_Len Tryz.lays170 B b bs w h
def Tryz.lays169_ren : Go.Shelf.Ren := ⟨fun | 169 => 71 | n => n, fun | 70 => 88 | 9 => 9 | 0 => 0 | 72 => 91 | 37 => 89 | 127 => 122 | 3 => 3 | 5 => 5 | n => n, fun | n => n⟩
theorem Tryz.lays169 : Go.Proofs.Lays.n169 Tryz.prog Tryz.lays169_ren := {
  mixed := by kernel_rfl
  f169 := Tryz.func71.trans (congrArg some (by kernel_rfl))
  t0 := Tryz.underlying0
  a0 := Tryz.isAgg0
  z0 := Tryz.sizeOf0
  v0 := Tryz.zeroValue0
  t3 := Tryz.underlying3
  a3 := Tryz.isAgg3
  z3 := Tryz.sizeOf3
  v3 := Tryz.zeroValue3
  t9 := Tryz.underlying9
  a9 := Tryz.isAgg9
  z9 := Tryz.sizeOf9
  v9 := Tryz.zeroValue9
  t37 := Tryz.underlying89
  a37 := Tryz.isAgg89
  z37 := Tryz.sizeOf89
  v37 := Tryz.zeroValue89
  t70 := Tryz.underlying88
  a70 := Tryz.isAgg88
  z70 := Tryz.sizeOf88
  v70 := Tryz.zeroValue88
  t72 := Tryz.underlying91
  a72 := Tryz.isAgg91
  z72 := Tryz.sizeOf91
  v72 := Tryz.zeroValue91
  t127 := Tryz.underlying122
  a127 := Tryz.isAgg122
  z127 := Tryz.sizeOf122
  v127 := Tryz.zeroValue122 }
theorem Tryz.Builder_Extra_169 : Builder.Extra Tryz.prog Tryz.lays169_ren := {
  sizeBuilder := by kernel_rfl
  liesBuilder := by kernel_rfl
  t5 := Tryz.underlying5
  a5 := Tryz.isAgg5
  z5 := Tryz.sizeOf5
  v5 := Tryz.zeroValue5
  infoByte := by kernel_rfl
  cellsByte := by kernel_rfl
  sizeByte := by kernel_rfl
  neB5 := by decide }
open Go.RowKit in
theorem Tryz.Builder_String (B b : Nat) (l : List UInt8) (w : World) (h : Lib.IsBuilder 91 5 B b (Lib.byteCells l) w) (h0 : l ≠ []) :
    Calls Tryz.prog 71 #[.pointer (some ⟨b, 0, none⟩)] w fun e w' => e = .returned (.string ⟨l.toArray⟩) ∧ Below B w w' := Any.Builder_String Tryz.lays169 Tryz.Builder_Extra_169 B b l w h h0
open Go.RowKit in
theorem Tryz.Builder_String_empty (B b : Nat) (w : World) (h : Lib.IsBuilder 91 5 B b [] w) (hBw : B ≤ w.heap.size) :
    Calls Tryz.prog 71 #[.pointer (some ⟨b, 0, none⟩)] w fun e w' => e = .returned (.string ⟨#[]⟩) ∧ Below B w w' := Any.Builder_String_empty Tryz.lays169 Tryz.Builder_Extra_169 B b w h hBw
open Go.RowKit in
theorem Tryz.Builder_String_any (B b : Nat) (l : List UInt8) (w : World) (h : Lib.IsBuilder 91 5 B b (Lib.byteCells l) w) (hBw : B ≤ w.heap.size) :
    Calls Tryz.prog 71 #[.pointer (some ⟨b, 0, none⟩)] w fun e w' => e = .returned (.string ⟨l.toArray⟩) ∧ Below B w w' := Any.Builder_String_any Tryz.lays169 Tryz.Builder_Extra_169 B b l w h hBw
def Tryz.lays165_ren : Go.Shelf.Ren := ⟨fun | 165 => 61 | 240 => 95 | 241 => 96 | 276 => 114 | 277 => 115 | n => n, fun | 70 => 88 | 3 => 3 | 0 => 0 | 4 => 4 | 9 => 9 | 20 => 20 | 72 => 91 | 37 => 89 | 164 => 138 | 5 => 5 | n => n, fun | n => n⟩
theorem Tryz.lays165 : Go.Proofs.Lays.n165 Tryz.prog Tryz.lays165_ren := {
  mixed := by kernel_rfl
  f165 := Tryz.func61.trans (congrArg some (by kernel_rfl))
  f240 := Tryz.func95.trans (congrArg some (by kernel_rfl))
  f241 := Tryz.func96.trans (congrArg some (by kernel_rfl))
  f276 := Tryz.func114.trans (congrArg some (by kernel_rfl))
  f277 := Tryz.func115.trans (congrArg some (by kernel_rfl))
  t0 := Tryz.underlying0
  a0 := Tryz.isAgg0
  z0 := Tryz.sizeOf0
  v0 := Tryz.zeroValue0
  t3 := Tryz.underlying3
  a3 := Tryz.isAgg3
  z3 := Tryz.sizeOf3
  v3 := Tryz.zeroValue3
  t4 := Tryz.underlying4
  a4 := Tryz.isAgg4
  z4 := Tryz.sizeOf4
  v4 := Tryz.zeroValue4
  t9 := Tryz.underlying9
  a9 := Tryz.isAgg9
  z9 := Tryz.sizeOf9
  v9 := Tryz.zeroValue9
  t20 := Tryz.underlying20
  a20 := Tryz.isAgg20
  z20 := Tryz.sizeOf20
  v20 := Tryz.zeroValue20
  t37 := Tryz.underlying89
  a37 := Tryz.isAgg89
  z37 := Tryz.sizeOf89
  v37 := Tryz.zeroValue89
  t70 := Tryz.underlying88
  a70 := Tryz.isAgg88
  z70 := Tryz.sizeOf88
  v70 := Tryz.zeroValue88
  t72 := Tryz.underlying91
  a72 := Tryz.isAgg91
  z72 := Tryz.sizeOf91
  v72 := Tryz.zeroValue91
  t164 := Tryz.underlying138
  a164 := Tryz.isAgg138
  z164 := Tryz.sizeOf138
  v164 := Tryz.zeroValue138 }
theorem Tryz.Builder_Extra_165 : Builder.Extra Tryz.prog Tryz.lays165_ren := {
  sizeBuilder := by kernel_rfl
  liesBuilder := by kernel_rfl
  t5 := Tryz.underlying5
  a5 := Tryz.isAgg5
  z5 := Tryz.sizeOf5
  v5 := Tryz.zeroValue5
  infoByte := by kernel_rfl
  cellsByte := by kernel_rfl
  sizeByte := by kernel_rfl
  neB5 := by decide }
open Go.RowKit in
theorem Tryz.Builder_Grow_fresh (B b n : Nat) (w : World) (hB : B ≤ b) (hbk : w.heap[b]? = some (.cells #[.pointer none, .slice none 0 0] 91 (0, 0))) (hBw : B ≤ w.heap.size) (hn : n ≤ 281474976710656) :
    Calls Tryz.prog 61 #[.pointer (some ⟨b, 0, none⟩), .int .i64 n] w fun e w' => e = .returned (.tuple #[]) ∧ (Lib.BuilderAt 91 5 B b (.pointer (some ⟨b, 0, none⟩)) [] w' ∧ Below B w w') := Any.Builder_Grow_fresh Tryz.lays165 Tryz.Builder_Extra_165 B b n w hB hbk hBw hn
def Tryz.lays159_ren : Go.Shelf.Ren := ⟨fun | 159 => 90 | 165 => 61 | 166 => 62 | 167 => 63 | 169 => 71 | 230 => 107 | 204 => 108 | 240 => 95 | 241 => 96 | 197 => 134 | 118 => 135 | 168 => 136 | 270 => 137 | 262 => 138 | 276 => 114 | 277 => 115 | 260 => 152 | 242 => 153 | 313 => 154 | 278 => 158 | 274 => 159 | 275 => 160 | n => n, fun | 9 => 9 | 4 => 4 | 3 => 3 | 5 => 5 | 72 => 91 | 0 => 0 | 76 => 97 | 75 => 56 | 107 => 133 | 70 => 88 | 20 => 20 | 37 => 89 | 127 => 122 | 21 => 21 | 105 => 157 | 164 => 138 | 162 => 189 | 203 => 187 | 119 => 196 | 46 => 69 | 139 => 199 | 138 => 198 | 51 => 152 | 160 => 200 | 208 => 213 | 206 => 211 | 80 => 59 | n => n, fun | 13 => 2 | 3 => 4 | 4 => 5 | n => n⟩
theorem Tryz.lays159 : Go.Proofs.Lays.n159 Tryz.prog Tryz.lays159_ren := {
  mixed := by kernel_rfl
  f118 := Tryz.func135.trans (congrArg some (by kernel_rfl))
  f159 := Tryz.func90.trans (congrArg some (by kernel_rfl))
  f165 := Tryz.func61.trans (congrArg some (by kernel_rfl))
  f166 := Tryz.func62.trans (congrArg some (by kernel_rfl))
  f167 := Tryz.func63.trans (congrArg some (by kernel_rfl))
  f168 := Tryz.func136.trans (congrArg some (by kernel_rfl))
  f169 := Tryz.func71.trans (congrArg some (by kernel_rfl))
  f197 := Tryz.func134.trans (congrArg some (by kernel_rfl))
  f204 := Tryz.func108.trans (congrArg some (by kernel_rfl))
  f230 := Tryz.func107.trans (congrArg some (by kernel_rfl))
  f240 := Tryz.func95.trans (congrArg some (by kernel_rfl))
  f241 := Tryz.func96.trans (congrArg some (by kernel_rfl))
  f242 := Tryz.func153.trans (congrArg some (by kernel_rfl))
  f260 := Tryz.func152.trans (congrArg some (by kernel_rfl))
  f262 := Tryz.func138.trans (congrArg some (by kernel_rfl))
  f270 := Tryz.func137.trans (congrArg some (by kernel_rfl))
  f274 := Tryz.func159.trans (congrArg some (by kernel_rfl))
  f275 := Tryz.func160.trans (congrArg some (by kernel_rfl))
  f276 := Tryz.func114.trans (congrArg some (by kernel_rfl))
  f277 := Tryz.func115.trans (congrArg some (by kernel_rfl))
  f278 := Tryz.func158.trans (congrArg some (by kernel_rfl))
  f313 := Tryz.func154.trans (congrArg some (by kernel_rfl))
  t0 := Tryz.underlying0
  a0 := Tryz.isAgg0
  z0 := Tryz.sizeOf0
  v0 := Tryz.zeroValue0
  t3 := Tryz.underlying3
  a3 := Tryz.isAgg3
  z3 := Tryz.sizeOf3
  v3 := Tryz.zeroValue3
  t4 := Tryz.underlying4
  a4 := Tryz.isAgg4
  z4 := Tryz.sizeOf4
  v4 := Tryz.zeroValue4
  t5 := Tryz.underlying5
  a5 := Tryz.isAgg5
  z5 := Tryz.sizeOf5
  v5 := Tryz.zeroValue5
  t9 := Tryz.underlying9
  a9 := Tryz.isAgg9
  z9 := Tryz.sizeOf9
  v9 := Tryz.zeroValue9
  t20 := Tryz.underlying20
  a20 := Tryz.isAgg20
  z20 := Tryz.sizeOf20
  v20 := Tryz.zeroValue20
  t21 := Tryz.underlying21
  a21 := Tryz.isAgg21
  z21 := Tryz.sizeOf21
  v21 := Tryz.zeroValue21
  t37 := Tryz.underlying89
  a37 := Tryz.isAgg89
  z37 := Tryz.sizeOf89
  v37 := Tryz.zeroValue89
  t46 := Tryz.underlying69
  a46 := Tryz.isAgg69
  z46 := Tryz.sizeOf69
  v46 := Tryz.zeroValue69
  t51 := Tryz.underlying152
  a51 := Tryz.isAgg152
  z51 := Tryz.sizeOf152
  v51 := Tryz.zeroValue152
  t70 := Tryz.underlying88
  a70 := Tryz.isAgg88
  z70 := Tryz.sizeOf88
  v70 := Tryz.zeroValue88
  t72 := Tryz.underlying91
  a72 := Tryz.isAgg91
  z72 := Tryz.sizeOf91
  v72 := Tryz.zeroValue91
  t75 := Tryz.underlying56
  a75 := Tryz.isAgg56
  z75 := Tryz.sizeOf56
  v75 := Tryz.zeroValue56
  t76 := Tryz.underlying97
  a76 := Tryz.isAgg97
  z76 := Tryz.sizeOf97
  v76 := Tryz.zeroValue97
  t105 := Tryz.underlying157
  a105 := Tryz.isAgg157
  z105 := Tryz.sizeOf157
  v105 := Tryz.zeroValue157
  t107 := Tryz.underlying133
  a107 := Tryz.isAgg133
  z107 := Tryz.sizeOf133
  v107 := Tryz.zeroValue133
  t119 := Tryz.underlying196
  a119 := Tryz.isAgg196
  z119 := Tryz.sizeOf196
  t127 := Tryz.underlying122
  a127 := Tryz.isAgg122
  z127 := Tryz.sizeOf122
  v127 := Tryz.zeroValue122
  t138 := Tryz.underlying198
  a138 := Tryz.isAgg198
  z138 := Tryz.sizeOf198
  v138 := Tryz.zeroValue198
  t139 := Tryz.underlying199
  a139 := Tryz.isAgg199
  z139 := Tryz.sizeOf199
  v139 := Tryz.zeroValue199
  t160 := Tryz.underlying200
  a160 := Tryz.isAgg200
  z160 := Tryz.sizeOf200
  v160 := Tryz.zeroValue200
  t162 := Tryz.underlying189
  a162 := Tryz.isAgg189
  z162 := Tryz.sizeOf189
  v162 := Tryz.zeroValue189
  t164 := Tryz.underlying138
  a164 := Tryz.isAgg138
  z164 := Tryz.sizeOf138
  v164 := Tryz.zeroValue138
  t203 := Tryz.underlying187
  a203 := Tryz.isAgg187
  z203 := Tryz.sizeOf187
  v203 := Tryz.zeroValue187
  t206 := Tryz.underlying211
  a206 := Tryz.isAgg211
  z206 := Tryz.sizeOf211
  v206 := Tryz.zeroValue211
  t208 := Tryz.underlying213
  a208 := Tryz.isAgg213
  z208 := Tryz.sizeOf213
  v208 := Tryz.zeroValue213
  g3 := by kernel_rfl
  g4 := by kernel_rfl
  g13 := by kernel_rfl }
theorem Tryz.Builder_Extra_159 : Builder.Extra Tryz.prog Tryz.lays159_ren := {
  sizeBuilder := by kernel_rfl
  liesBuilder := by kernel_rfl
  t5 := Tryz.underlying5
  a5 := Tryz.isAgg5
  z5 := Tryz.sizeOf5
  v5 := Tryz.zeroValue5
  infoByte := by kernel_rfl
  cellsByte := by kernel_rfl
  sizeByte := by kernel_rfl
  neB5 := by decide }
open Go.RowKit in
theorem Tryz.strings_ToLower_ascii (s : ByteArray) (w : World) (hs : s.size ≤ 140737488355328) (hascii : ∀ (j : Nat) (b : UInt8), s.data.toList[j]? = some b → b.toNat < 128) :
    Calls Tryz.prog 90 #[.string s] w fun e w' => e = .returned (.string ⟨(Lib.toLowerA s.data.toList).toArray⟩) ∧ Below w.heap.size w w' := Any.strings_ToLower_ascii Tryz.lays159 Tryz.Builder_Extra_159 s w hs hascii
def Tryz.lays148_ren : Go.Shelf.Ren := ⟨fun | 148 => 101 | 222 => 117 | 223 => 118 | 269 => 142 | n => n, fun | 9 => 9 | 3 => 3 | 4 => 4 | 5 => 5 | 146 => 174 | 51 => 152 | 46 => 69 | n => n, fun | n => n⟩
theorem Tryz.lays148 : Go.Proofs.Lays.n148 Tryz.prog Tryz.lays148_ren := {
  mixed := by kernel_rfl
  f148 := Tryz.func101.trans (congrArg some (by kernel_rfl))
  f222 := Tryz.func117.trans (congrArg some (by kernel_rfl))
  f223 := Tryz.func118.trans (congrArg some (by kernel_rfl))
  f269 := Tryz.func142.trans (congrArg some (by kernel_rfl))
  t3 := Tryz.underlying3
  a3 := Tryz.isAgg3
  z3 := Tryz.sizeOf3
  v3 := Tryz.zeroValue3
  t4 := Tryz.underlying4
  a4 := Tryz.isAgg4
  z4 := Tryz.sizeOf4
  v4 := Tryz.zeroValue4
  t5 := Tryz.underlying5
  a5 := Tryz.isAgg5
  z5 := Tryz.sizeOf5
  v5 := Tryz.zeroValue5
  t9 := Tryz.underlying9
  a9 := Tryz.isAgg9
  z9 := Tryz.sizeOf9
  v9 := Tryz.zeroValue9
  t46 := Tryz.underlying69
  a46 := Tryz.isAgg69
  z46 := Tryz.sizeOf69
  v46 := Tryz.zeroValue69
  t51 := Tryz.underlying152
  a51 := Tryz.isAgg152
  z51 := Tryz.sizeOf152
  v51 := Tryz.zeroValue152
  t146 := Tryz.underlying174
  a146 := Tryz.isAgg174
  z146 := Tryz.sizeOf174
  v146 := Tryz.zeroValue174 }
open Go.RowKit Go.Lib in
theorem Tryz.strings_LastIndex_one (s sub : ByteArray) (h1 : sub.size = 1) (hs : s.size < 4611686018427387904) (w : World) :
    Calls Tryz.prog 101 #[.string s, .string sub] w fun e w' => e = .returned (.int .i64 (Lib.lastIndexByte s ((sub[0]'(by omega)).toNat : Int))) ∧ w' = w := Any.strings_LastIndex_one Tryz.lays148 s sub h1 hs w
def Tryz.lays99_ren : Go.Shelf.Ren := ⟨fun | 99 => 67 | 206 => 99 | n => n, fun | 9 => 9 | 4 => 4 | 3 => 3 | n => n, fun | n => n⟩
theorem Tryz.lays99 : Go.Proofs.Lays.n99 Tryz.prog Tryz.lays99_ren := {
  mixed := by kernel_rfl
  f99 := Tryz.func67.trans (congrArg some (by kernel_rfl))
  f206 := Tryz.func99.trans (congrArg some (by kernel_rfl))
  t3 := Tryz.underlying3
  a3 := Tryz.isAgg3
  z3 := Tryz.sizeOf3
  v3 := Tryz.zeroValue3
  t4 := Tryz.underlying4
  a4 := Tryz.isAgg4
  z4 := Tryz.sizeOf4
  v4 := Tryz.zeroValue4
  t9 := Tryz.underlying9
  a9 := Tryz.isAgg9
  z9 := Tryz.sizeOf9
  v9 := Tryz.zeroValue9 }
open Go.RowKit Go.Lib in
theorem Tryz.strings_HasPrefix (s p : ByteArray) (w : World) :
    Calls Tryz.prog 67 #[.string s, .string p] w fun e w' => e = .returned (.bool (Lib.hasPrefix s.data.toList p.data.toList)) ∧ w' = w := Any.strings_HasPrefix Tryz.lays99 s p w
def Tryz.lays100_ren : Go.Shelf.Ren := ⟨fun | 100 => 91 | 207 => 109 | n => n, fun | 9 => 9 | 4 => 4 | 3 => 3 | n => n, fun | n => n⟩
theorem Tryz.lays100 : Go.Proofs.Lays.n100 Tryz.prog Tryz.lays100_ren := {
  mixed := by kernel_rfl
  f100 := Tryz.func91.trans (congrArg some (by kernel_rfl))
  f207 := Tryz.func109.trans (congrArg some (by kernel_rfl))
  t3 := Tryz.underlying3
  a3 := Tryz.isAgg3
  z3 := Tryz.sizeOf3
  v3 := Tryz.zeroValue3
  t4 := Tryz.underlying4
  a4 := Tryz.isAgg4
  z4 := Tryz.sizeOf4
  v4 := Tryz.zeroValue4
  t9 := Tryz.underlying9
  a9 := Tryz.isAgg9
  z9 := Tryz.sizeOf9
  v9 := Tryz.zeroValue9 }
open Go.RowKit Go.Lib in
theorem Tryz.strings_HasSuffix (s p : ByteArray) (w : World) (hs : s.size ≤ 9223372036854775807) :
    Calls Tryz.prog 91 #[.string s, .string p] w fun e w' => e = .returned (.bool (Lib.hasSuffix s.data.toList p.data.toList)) ∧ w' = w := Any.strings_HasSuffix Tryz.lays100 s p w hs
end Go.Proofs
