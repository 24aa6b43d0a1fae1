import Derived.Shelf.Strings.Builder1
import Derived.Shelf.Strings.OnBuilder
import Derived.Shelf.Strings.SlTrimAscii
import Derived.Shelf.Small.Strs
import Derived.Shelf.Small.Wraps
import Derived.Shelf.Strings.Prefix
import Derived.Test.Qxb6604015aDoorProg
namespace Go.Proofs
open Go.Shelf
def Tryd.lays169_ren : Go.Shelf.Ren := ⟨fun | 169 => 36 | n => n, fun | 70 => 59 | 9 => 9 | 0 => 0 | 72 => 61 | 37 => 32 | 127 => 74 | 3 => 3 | 5 => 5 | n => n, fun | n => n⟩
theorem Tryd.lays169 : Go.Proofs.Lays.n169 Tryd.prog Tryd.lays169_ren := {
  mixed := by kernel_rfl
  f169 := Tryd.func36.trans (congrArg some (by kernel_rfl))
  t0 := Tryd.underlying0
  a0 := Tryd.isAgg0
  z0 := Tryd.sizeOf0
  v0 := Tryd.zeroValue0
  t3 := Tryd.underlying3
  a3 := Tryd.isAgg3
  z3 := Tryd.sizeOf3
  v3 := Tryd.zeroValue3
  t9 := Tryd.underlying9
  a9 := Tryd.isAgg9
  z9 := Tryd.sizeOf9
  v9 := Tryd.zeroValue9
  t37 := Tryd.underlying32
  a37 := Tryd.isAgg32
  z37 := Tryd.sizeOf32
  v37 := Tryd.zeroValue32
  t70 := Tryd.underlying59
  a70 := Tryd.isAgg59
  z70 := Tryd.sizeOf59
  v70 := Tryd.zeroValue59
  t72 := Tryd.underlying61
  a72 := Tryd.isAgg61
  z72 := Tryd.sizeOf61
  v72 := Tryd.zeroValue61
  t127 := Tryd.underlying74
  a127 := Tryd.isAgg74
  z127 := Tryd.sizeOf74
  v127 := Tryd.zeroValue74 }
theorem Tryd.Builder_Extra_169 : Builder.Extra Tryd.prog Tryd.lays169_ren := {
  sizeBuilder := by kernel_rfl
  liesBuilder := by kernel_rfl
  t5 := Tryd.underlying5
  a5 := Tryd.isAgg5
  z5 := Tryd.sizeOf5
  v5 := Tryd.zeroValue5
  infoByte := by kernel_rfl
  cellsByte := by kernel_rfl
  sizeByte := by kernel_rfl
  neB5 := by decide }
open Go.RowKit in
theorem Tryd.Builder_String_any (B b : Nat) (l : List UInt8) (w : World) (h : Lib.IsBuilder 61 5 B b (Lib.byteCells l) w) (hBw : B ≤ w.heap.size) :
    Calls Tryd.prog 36 #[.pointer (some ⟨b, 0, none⟩)] w fun e w' => e = .returned (.string ⟨l.toArray⟩) ∧ Below B w w' := Any.Builder_String_any Tryd.lays169 Tryd.Builder_Extra_169 B b l w h hBw
def Tryd.lays159_ren : Go.Shelf.Ren := ⟨fun | 159 => 22 | 165 => 33 | 166 => 34 | 167 => 35 | 169 => 36 | 230 => 37 | 204 => 38 | 240 => 46 | 241 => 47 | 197 => 43 | 118 => 48 | 168 => 49 | 270 => 50 | 262 => 51 | 276 => 55 | 277 => 56 | 260 => 52 | 242 => 57 | 313 => 58 | 278 => 62 | 274 => 63 | 275 => 64 | n => n, fun | 9 => 9 | 4 => 4 | 3 => 3 | 5 => 5 | 72 => 61 | 0 => 0 | 76 => 65 | 75 => 64 | 107 => 70 | 70 => 59 | 20 => 20 | 37 => 32 | 127 => 74 | 21 => 21 | 105 => 71 | 164 => 80 | 162 => 86 | 203 => 84 | 119 => 87 | 46 => 88 | 139 => 91 | 138 => 90 | 51 => 95 | 160 => 96 | 208 => 102 | 206 => 100 | 80 => 68 | n => n, fun | 13 => 0 | 3 => 1 | 4 => 2 | n => n⟩
theorem Tryd.lays159 : Go.Proofs.Lays.n159 Tryd.prog Tryd.lays159_ren := {
  mixed := by kernel_rfl
  f118 := Tryd.func48.trans (congrArg some (by kernel_rfl))
  f159 := Tryd.func22.trans (congrArg some (by kernel_rfl))
  f165 := Tryd.func33.trans (congrArg some (by kernel_rfl))
  f166 := Tryd.func34.trans (congrArg some (by kernel_rfl))
  f167 := Tryd.func35.trans (congrArg some (by kernel_rfl))
  f168 := Tryd.func49.trans (congrArg some (by kernel_rfl))
  f169 := Tryd.func36.trans (congrArg some (by kernel_rfl))
  f197 := Tryd.func43.trans (congrArg some (by kernel_rfl))
  f204 := Tryd.func38.trans (congrArg some (by kernel_rfl))
  f230 := Tryd.func37.trans (congrArg some (by kernel_rfl))
  f240 := Tryd.func46.trans (congrArg some (by kernel_rfl))
  f241 := Tryd.func47.trans (congrArg some (by kernel_rfl))
  f242 := Tryd.func57.trans (congrArg some (by kernel_rfl))
  f260 := Tryd.func52.trans (congrArg some (by kernel_rfl))
  f262 := Tryd.func51.trans (congrArg some (by kernel_rfl))
  f270 := Tryd.func50.trans (congrArg some (by kernel_rfl))
  f274 := Tryd.func63.trans (congrArg some (by kernel_rfl))
  f275 := Tryd.func64.trans (congrArg some (by kernel_rfl))
  f276 := Tryd.func55.trans (congrArg some (by kernel_rfl))
  f277 := Tryd.func56.trans (congrArg some (by kernel_rfl))
  f278 := Tryd.func62.trans (congrArg some (by kernel_rfl))
  f313 := Tryd.func58.trans (congrArg some (by kernel_rfl))
  t0 := Tryd.underlying0
  a0 := Tryd.isAgg0
  z0 := Tryd.sizeOf0
  v0 := Tryd.zeroValue0
  t3 := Tryd.underlying3
  a3 := Tryd.isAgg3
  z3 := Tryd.sizeOf3
  v3 := Tryd.zeroValue3
  t4 := Tryd.underlying4
  a4 := Tryd.isAgg4
  z4 := Tryd.sizeOf4
  v4 := Tryd.zeroValue4
  t5 := Tryd.underlying5
  a5 := Tryd.isAgg5
  z5 := Tryd.sizeOf5
  v5 := Tryd.zeroValue5
  t9 := Tryd.underlying9
  a9 := Tryd.isAgg9
  z9 := Tryd.sizeOf9
  v9 := Tryd.zeroValue9
  t20 := Tryd.underlying20
  a20 := Tryd.isAgg20
  z20 := Tryd.sizeOf20
  v20 := Tryd.zeroValue20
  t21 := Tryd.underlying21
  a21 := Tryd.isAgg21
  z21 := Tryd.sizeOf21
  v21 := Tryd.zeroValue21
  t37 := Tryd.underlying32
  a37 := Tryd.isAgg32
  z37 := Tryd.sizeOf32
  v37 := Tryd.zeroValue32
  t46 := Tryd.underlying88
  a46 := Tryd.isAgg88
  z46 := Tryd.sizeOf88
  v46 := Tryd.zeroValue88
  t51 := Tryd.underlying95
  a51 := Tryd.isAgg95
  z51 := Tryd.sizeOf95
  v51 := Tryd.zeroValue95
  t70 := Tryd.underlying59
  a70 := Tryd.isAgg59
  z70 := Tryd.sizeOf59
  v70 := Tryd.zeroValue59
  t72 := Tryd.underlying61
  a72 := Tryd.isAgg61
  z72 := Tryd.sizeOf61
  v72 := Tryd.zeroValue61
  t75 := Tryd.underlying64
  a75 := Tryd.isAgg64
  z75 := Tryd.sizeOf64
  v75 := Tryd.zeroValue64
  t76 := Tryd.underlying65
  a76 := Tryd.isAgg65
  z76 := Tryd.sizeOf65
  v76 := Tryd.zeroValue65
  t105 := Tryd.underlying71
  a105 := Tryd.isAgg71
  z105 := Tryd.sizeOf71
  v105 := Tryd.zeroValue71
  t107 := Tryd.underlying70
  a107 := Tryd.isAgg70
  z107 := Tryd.sizeOf70
  v107 := Tryd.zeroValue70
  t119 := Tryd.underlying87
  a119 := Tryd.isAgg87
  z119 := Tryd.sizeOf87
  t127 := Tryd.underlying74
  a127 := Tryd.isAgg74
  z127 := Tryd.sizeOf74
  v127 := Tryd.zeroValue74
  t138 := Tryd.underlying90
  a138 := Tryd.isAgg90
  z138 := Tryd.sizeOf90
  v138 := Tryd.zeroValue90
  t139 := Tryd.underlying91
  a139 := Tryd.isAgg91
  z139 := Tryd.sizeOf91
  v139 := Tryd.zeroValue91
  t160 := Tryd.underlying96
  a160 := Tryd.isAgg96
  z160 := Tryd.sizeOf96
  v160 := Tryd.zeroValue96
  t162 := Tryd.underlying86
  a162 := Tryd.isAgg86
  z162 := Tryd.sizeOf86
  v162 := Tryd.zeroValue86
  t164 := Tryd.underlying80
  a164 := Tryd.isAgg80
  z164 := Tryd.sizeOf80
  v164 := Tryd.zeroValue80
  t203 := Tryd.underlying84
  a203 := Tryd.isAgg84
  z203 := Tryd.sizeOf84
  v203 := Tryd.zeroValue84
  t206 := Tryd.underlying100
  a206 := Tryd.isAgg100
  z206 := Tryd.sizeOf100
  v206 := Tryd.zeroValue100
  t208 := Tryd.underlying102
  a208 := Tryd.isAgg102
  z208 := Tryd.sizeOf102
  v208 := Tryd.zeroValue102
  g3 := by kernel_rfl
  g4 := by kernel_rfl
  g13 := by kernel_rfl }
theorem Tryd.Builder_Extra_159 : Builder.Extra Tryd.prog Tryd.lays159_ren := {
  sizeBuilder := by kernel_rfl
  liesBuilder := by kernel_rfl
  t5 := Tryd.underlying5
  a5 := Tryd.isAgg5
  z5 := Tryd.sizeOf5
  v5 := Tryd.zeroValue5
  infoByte := by kernel_rfl
  cellsByte := by kernel_rfl
  sizeByte := by kernel_rfl
  neB5 := by decide }
open Go.RowKit in
theorem Tryd.strings_ToLower_ascii (s : ByteArray) (w : World) (hs : s.size ≤ 140737488355328) (hascii : ∀ (j : Nat) (b : UInt8), s.data.toList[j]? = some b → b.toNat < 128) :
    Calls Tryd.prog 22 #[.string s] w fun e w' => e = .returned (.string ⟨(Lib.toLowerA s.data.toList).toArray⟩) ∧ Below w.heap.size w w' := Any.strings_ToLower_ascii Tryd.lays159 Tryd.Builder_Extra_159 s w hs hascii
def Tryd.lays161_ren : Go.Shelf.Ren := ⟨fun | 161 => 20 | 231 => 28 | 227 => 29 | 233 => 30 | 235 => 31 | 228 => 42 | 197 => 43 | 151 => 44 | 260 => 52 | 152 => 53 | 137 => 32 | 119 => 59 | 224 => 60 | 225 => 61 | 217 => 45 | 266 => 54 | n => n, fun | 9 => 9 | 4 => 4 | 3 => 3 | 5 => 5 | 117 => 54 | 116 => 53 | 0 => 0 | 124 => 57 | 105 => 71 | 21 => 21 | 119 => 87 | 46 => 88 | 139 => 91 | 138 => 90 | n => n, fun | 3 => 1 | 4 => 2 | n => n⟩
theorem Tryd.lays161 : Go.Proofs.Lays.n161 Tryd.prog Tryd.lays161_ren := {
  mixed := by kernel_rfl
  f119 := Tryd.func59.trans (congrArg some (by kernel_rfl))
  f137 := Tryd.func32.trans (congrArg some (by kernel_rfl))
  f151 := Tryd.func44.trans (congrArg some (by kernel_rfl))
  f152 := Tryd.func53.trans (congrArg some (by kernel_rfl))
  f161 := Tryd.func20.trans (congrArg some (by kernel_rfl))
  f197 := Tryd.func43.trans (congrArg some (by kernel_rfl))
  f217 := Tryd.func45.trans (congrArg some (by kernel_rfl))
  f224 := Tryd.func60.trans (congrArg some (by kernel_rfl))
  f225 := Tryd.func61.trans (congrArg some (by kernel_rfl))
  f227 := Tryd.func29.trans (congrArg some (by kernel_rfl))
  f228 := Tryd.func42.trans (congrArg some (by kernel_rfl))
  f231 := Tryd.func28.trans (congrArg some (by kernel_rfl))
  f233 := Tryd.func30.trans (congrArg some (by kernel_rfl))
  f235 := Tryd.func31.trans (congrArg some (by kernel_rfl))
  f260 := Tryd.func52.trans (congrArg some (by kernel_rfl))
  f266 := Tryd.func54.trans (congrArg some (by kernel_rfl))
  t0 := Tryd.underlying0
  a0 := Tryd.isAgg0
  z0 := Tryd.sizeOf0
  v0 := Tryd.zeroValue0
  t3 := Tryd.underlying3
  a3 := Tryd.isAgg3
  z3 := Tryd.sizeOf3
  v3 := Tryd.zeroValue3
  t4 := Tryd.underlying4
  a4 := Tryd.isAgg4
  z4 := Tryd.sizeOf4
  v4 := Tryd.zeroValue4
  t5 := Tryd.underlying5
  a5 := Tryd.isAgg5
  z5 := Tryd.sizeOf5
  v5 := Tryd.zeroValue5
  t9 := Tryd.underlying9
  a9 := Tryd.isAgg9
  z9 := Tryd.sizeOf9
  v9 := Tryd.zeroValue9
  t21 := Tryd.underlying21
  a21 := Tryd.isAgg21
  z21 := Tryd.sizeOf21
  v21 := Tryd.zeroValue21
  t46 := Tryd.underlying88
  a46 := Tryd.isAgg88
  z46 := Tryd.sizeOf88
  v46 := Tryd.zeroValue88
  t105 := Tryd.underlying71
  a105 := Tryd.isAgg71
  z105 := Tryd.sizeOf71
  v105 := Tryd.zeroValue71
  t116 := Tryd.underlying53
  a116 := Tryd.isAgg53
  z116 := Tryd.sizeOf53
  t117 := Tryd.underlying54
  a117 := Tryd.isAgg54
  z117 := Tryd.sizeOf54
  v117 := Tryd.zeroValue54
  t119 := Tryd.underlying87
  a119 := Tryd.isAgg87
  z119 := Tryd.sizeOf87
  t124 := Tryd.underlying57
  a124 := Tryd.isAgg57
  z124 := Tryd.sizeOf57
  v124 := Tryd.zeroValue57
  t138 := Tryd.underlying90
  a138 := Tryd.isAgg90
  z138 := Tryd.sizeOf90
  v138 := Tryd.zeroValue90
  t139 := Tryd.underlying91
  a139 := Tryd.isAgg91
  z139 := Tryd.sizeOf91
  v139 := Tryd.zeroValue91
  g3 := by kernel_rfl
  g4 := by kernel_rfl }
def Tryd.lays137_ren : Go.Shelf.Ren := ⟨fun | 137 => 32 | 217 => 45 | 266 => 54 | n => n, fun | 9 => 9 | 5 => 5 | 3 => 3 | n => n, fun | n => n⟩
theorem Tryd.lays137 : Go.Proofs.Lays.n137 Tryd.prog Tryd.lays137_ren := {
  mixed := by kernel_rfl
  f137 := Tryd.func32.trans (congrArg some (by kernel_rfl))
  f217 := Tryd.func45.trans (congrArg some (by kernel_rfl))
  f266 := Tryd.func54.trans (congrArg some (by kernel_rfl))
  t3 := Tryd.underlying3
  a3 := Tryd.isAgg3
  z3 := Tryd.sizeOf3
  v3 := Tryd.zeroValue3
  t5 := Tryd.underlying5
  a5 := Tryd.isAgg5
  z5 := Tryd.sizeOf5
  v5 := Tryd.zeroValue5
  t9 := Tryd.underlying9
  a9 := Tryd.isAgg9
  z9 := Tryd.sizeOf9
  v9 := Tryd.zeroValue9 }
open Go.RowKit in
theorem Tryd.strings_IndexByte (s : ByteArray) (c : Int) (w : World) :
    Calls Tryd.prog 32 #[.string s, .int .u8 c] w fun e w' => e = .returned (.int .i64 (Lib.indexByte s.data.toList c.toNat.toUInt8)) ∧ w' = w := Any.strings_IndexByte Tryd.lays137 s c w
def Tryd.lays103_ren : Go.Shelf.Ren := ⟨fun | 103 => 23 | 210 => 39 | 206 => 40 | n => n, fun | 9 => 9 | 4 => 4 | 24 => 47 | 3 => 3 | n => n, fun | n => n⟩
theorem Tryd.lays103 : Go.Proofs.Lays.n103 Tryd.prog Tryd.lays103_ren := {
  mixed := by kernel_rfl
  f103 := Tryd.func23.trans (congrArg some (by kernel_rfl))
  f206 := Tryd.func40.trans (congrArg some (by kernel_rfl))
  f210 := Tryd.func39.trans (congrArg some (by kernel_rfl))
  t3 := Tryd.underlying3
  a3 := Tryd.isAgg3
  z3 := Tryd.sizeOf3
  v3 := Tryd.zeroValue3
  t4 := Tryd.underlying4
  a4 := Tryd.isAgg4
  z4 := Tryd.sizeOf4
  v4 := Tryd.zeroValue4
  t9 := Tryd.underlying9
  a9 := Tryd.isAgg9
  z9 := Tryd.sizeOf9
  v9 := Tryd.zeroValue9
  t24 := Tryd.underlying47
  a24 := Tryd.isAgg47
  z24 := Tryd.sizeOf47
  v24 := Tryd.zeroValue47 }
open Go.RowKit in
theorem Tryd.strings_CutPrefix (s p : ByteArray) (w : World) :
    Calls Tryd.prog 23 #[.string s, .string p] w fun e w' => e = .returned (.tuple #[.string ⟨(Lib.trimPrefix s.data.toList p.data.toList).toArray⟩, .bool (Lib.hasPrefix s.data.toList p.data.toList)]) ∧ w' = w := Any.strings_CutPrefix Tryd.lays103 s p w
def Tryd.lays99_ren : Go.Shelf.Ren := ⟨fun | 99 => 24 | 206 => 40 | n => n, fun | 9 => 9 | 4 => 4 | 3 => 3 | n => n, fun | n => n⟩
theorem Tryd.lays99 : Go.Proofs.Lays.n99 Tryd.prog Tryd.lays99_ren := {
  mixed := by kernel_rfl
  f99 := Tryd.func24.trans (congrArg some (by kernel_rfl))
  f206 := Tryd.func40.trans (congrArg some (by kernel_rfl))
  t3 := Tryd.underlying3
  a3 := Tryd.isAgg3
  z3 := Tryd.sizeOf3
  v3 := Tryd.zeroValue3
  t4 := Tryd.underlying4
  a4 := Tryd.isAgg4
  z4 := Tryd.sizeOf4
  v4 := Tryd.zeroValue4
  t9 := Tryd.underlying9
  a9 := Tryd.isAgg9
  z9 := Tryd.sizeOf9
  v9 := Tryd.zeroValue9 }
open Go.RowKit Go.Lib in
theorem Tryd.strings_HasPrefix (s p : ByteArray) (w : World) :
    Calls Tryd.prog 24 #[.string s, .string p] w fun e w' => e = .returned (.bool (Lib.hasPrefix s.data.toList p.data.toList)) ∧ w' = w := Any.strings_HasPrefix Tryd.lays99 s p w
open Go.RowKit in
theorem Tryd.Builder_WriteByte (B b : Nat) (bs : List Value) (c : Int) (w : World) (h : Lib.IsBuilder 61 5 B b bs w) (hlen : bs.length + 1 ≤ 140737488355328) (hBw : B ≤ w.heap.size) :
    Calls Tryd.prog 35 #[.pointer (some ⟨b, 0, none⟩), .int .u8 c] w fun e w' => e = .returned .nilIface ∧ (Lib.BuilderAt 61 5 B b (.pointer (some ⟨b, 0, none⟩)) (bs ++ [.int .u8 c]) w' ∧ Below B w w') :=
  Any.Builder_WriteByte ({ Tryd.lays159 with } : Lays.n167 Tryd.prog Tryd.lays159_ren) Tryd.Builder_Extra_159 B b bs c w h hlen hBw
open Go.RowKit in
theorem Tryd.strings_TrimLeft_laid (s cutset : ByteArray) (w : World) (hcs : cutset.size < 4294967281) (hascii : ∀ (j : Nat) b, cutset.data.toList[j]? = some b → b.toNat < 128) :
    Calls Tryd.prog 20 #[.string s, .string cutset] w fun e w' => e = .returned (.string ⟨(Lib.trimLeftS s.data.toList cutset.data.toList).toArray⟩) ∧ Below w.heap.size w w' :=
  Any.strings_TrimLeft_laid Tryd.lays161 (by kernel_rfl) s cutset w hcs hascii
end Go.Proofs
