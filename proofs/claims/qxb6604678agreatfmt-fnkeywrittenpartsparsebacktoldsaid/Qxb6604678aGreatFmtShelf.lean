import Derived.Shelf.Strings.Repeat
import Derived.Shelf.Strings.Prefix
import Derived.Shelf.Strings.BuilderK
import Derived.Shelf.Strings.Cut
import Derived.Shelf.Strconv.Quote
import Derived.Shelf.Small.Utf8
import Derived.Test.Qxb6604678aGreatFmtProg
namespace Go.Proofs
open Go.Shelf
def Tryz.lays119_ren : Go.Shelf.Ren := ⟨fun | 119 => 54 | n => n, fun | 21 => 21 | 4 => 4 | n => n, fun | n => n⟩
theorem Tryz.lays119 : Go.Proofs.Lays.n119 Tryz.prog Tryz.lays119_ren := {
  mixed := by kernel_rfl
  f119 := Tryz.func54.trans (congrArg some (by kernel_rfl))
  t4 := Tryz.underlying4
  a4 := Tryz.isAgg4
  z4 := Tryz.sizeOf4
  v4 := Tryz.zeroValue4
  t21 := Tryz.underlying21
  a21 := Tryz.isAgg21
  z21 := Tryz.sizeOf21
  v21 := Tryz.zeroValue21 }
theorem Tryz.utf8_ValidRune (r : Int) (w : World) :
    Calls Tryz.prog 54 #[.int .i32 r] w fun e w' => e = .returned (.bool (Lib.validRune r)) ∧ w' = w := Any.utf8_ValidRune Tryz.lays119 r w
def Tryz.lays177_ren : Go.Shelf.Ren := ⟨fun | 177 => 28 | 250 => 42 | 289 => 57 | 197 => 62 | 323 => 71 | 260 => 73 | 339 => 83 | 340 => 84 | 242 => 85 | 119 => 54 | 345 => 89 | 346 => 90 | 278 => 91 | n => n, fun | 9 => 9 | 5 => 5 | 4 => 4 | 3 => 3 | 37 => 32 | 21 => 21 | 105 => 91 | 46 => 39 | 119 => 109 | 0 => 0 | 139 => 112 | 138 => 111 | 49 => 116 | 234 => 117 | 131 => 118 | 51 => 86 | 236 => 120 | n => n, fun | 3 => 1 | 4 => 2 | 20 => 5 | 21 => 6 | 22 => 7 | 23 => 8 | 24 => 9 | n => n⟩
theorem Tryz.lays177 : Go.Proofs.Lays.n177 Tryz.prog Tryz.lays177_ren := {
  mixed := by kernel_rfl
  f119 := Tryz.func54.trans (congrArg some (by kernel_rfl))
  f177 := Tryz.func28.trans (congrArg some (by kernel_rfl))
  f197 := Tryz.func62.trans (congrArg some (by kernel_rfl))
  f242 := Tryz.func85.trans (congrArg some (by kernel_rfl))
  f250 := Tryz.func42.trans (congrArg some (by kernel_rfl))
  f260 := Tryz.func73.trans (congrArg some (by kernel_rfl))
  f278 := Tryz.func91.trans (congrArg some (by kernel_rfl))
  f289 := Tryz.func57.trans (congrArg some (by kernel_rfl))
  f323 := Tryz.func71.trans (congrArg some (by kernel_rfl))
  f339 := Tryz.func83.trans (congrArg some (by kernel_rfl))
  f340 := Tryz.func84.trans (congrArg some (by kernel_rfl))
  f345 := Tryz.func89.trans (congrArg some (by kernel_rfl))
  f346 := Tryz.func90.trans (congrArg some (by kernel_rfl))
  t0 := Tryz.underlying0
  a0 := Tryz.isAgg0
  z0 := Tryz.sizeOf0
  v0 := Tryz.zeroValue0
  t3 := Tryz.underlying3
  a3 := Tryz.isAgg3
  z3 := Tryz.sizeOf3
  v3 := Tryz.zeroValue3
  t4 := Tryz.underlying4
  a4 := Tryz.isAgg4
  z4 := Tryz.sizeOf4
  v4 := Tryz.zeroValue4
  t5 := Tryz.underlying5
  a5 := Tryz.isAgg5
  z5 := Tryz.sizeOf5
  v5 := Tryz.zeroValue5
  t9 := Tryz.underlying9
  a9 := Tryz.isAgg9
  z9 := Tryz.sizeOf9
  v9 := Tryz.zeroValue9
  t21 := Tryz.underlying21
  a21 := Tryz.isAgg21
  z21 := Tryz.sizeOf21
  v21 := Tryz.zeroValue21
  t37 := Tryz.underlying32
  a37 := Tryz.isAgg32
  z37 := Tryz.sizeOf32
  v37 := Tryz.zeroValue32
  t46 := Tryz.underlying39
  a46 := Tryz.isAgg39
  z46 := Tryz.sizeOf39
  v46 := Tryz.zeroValue39
  t49 := Tryz.underlying116
  a49 := Tryz.isAgg116
  z49 := Tryz.sizeOf116
  v49 := Tryz.zeroValue116
  t51 := Tryz.underlying86
  a51 := Tryz.isAgg86
  z51 := Tryz.sizeOf86
  v51 := Tryz.zeroValue86
  t105 := Tryz.underlying91
  a105 := Tryz.isAgg91
  z105 := Tryz.sizeOf91
  v105 := Tryz.zeroValue91
  t119 := Tryz.underlying109
  a119 := Tryz.isAgg109
  z119 := Tryz.sizeOf109
  t131 := Tryz.underlying118
  a131 := Tryz.isAgg118
  z131 := Tryz.sizeOf118
  v131 := Tryz.zeroValue118
  t138 := Tryz.underlying111
  a138 := Tryz.isAgg111
  z138 := Tryz.sizeOf111
  v138 := Tryz.zeroValue111
  t139 := Tryz.underlying112
  a139 := Tryz.isAgg112
  z139 := Tryz.sizeOf112
  v139 := Tryz.zeroValue112
  t234 := Tryz.underlying117
  a234 := Tryz.isAgg117
  z234 := Tryz.sizeOf117
  v234 := Tryz.zeroValue117
  t236 := Tryz.underlying120
  a236 := Tryz.isAgg120
  z236 := Tryz.sizeOf120
  v236 := Tryz.zeroValue120
  g3 := by kernel_rfl
  g4 := by kernel_rfl
  g20 := by kernel_rfl
  g21 := by kernel_rfl
  g22 := by kernel_rfl
  g23 := by kernel_rfl
  g24 := by kernel_rfl }
open Go.RowKit in
theorem Tryz.strconv_Quote (T : Lib.PrintTabs) (s : ByteArray) (w : World) (hlen : 10 * s.size + 12 ≤ 140737488355328) (hT : Lib.PrintTabsAt 5 6 7 8 T w) (hU : Lib.Utf8Tabs 1 2 w) :
    Calls Tryz.prog 28 #[.string s] w fun e w' => e = .returned (.string (strOfNums (Lib.quoteZ T s))) ∧ Below w.heap.size w w' := Any.strconv_Quote Tryz.lays177 (by kernel_rfl) T s w hlen hT hU
def Tryz.lays145_ren : Go.Shelf.Ren := ⟨fun | 145 => 26 | 220 => 40 | 219 => 55 | 217 => 67 | 225 => 68 | 224 => 69 | 267 => 70 | 266 => 81 | 314 => 82 | n => n, fun | 9 => 9 | 4 => 4 | 59 => 49 | 3 => 3 | 5 => 5 | 46 => 39 | 146 => 87 | 51 => 86 | n => n, fun | 1 => 0 | n => n⟩
theorem Tryz.lays145 : Go.Proofs.Lays.n145 Tryz.prog Tryz.lays145_ren := {
  mixed := by kernel_rfl
  f145 := Tryz.func26.trans (congrArg some (by kernel_rfl))
  f217 := Tryz.func67.trans (congrArg some (by kernel_rfl))
  f219 := Tryz.func55.trans (congrArg some (by kernel_rfl))
  f220 := Tryz.func40.trans (congrArg some (by kernel_rfl))
  f224 := Tryz.func69.trans (congrArg some (by kernel_rfl))
  f225 := Tryz.func68.trans (congrArg some (by kernel_rfl))
  f266 := Tryz.func81.trans (congrArg some (by kernel_rfl))
  f267 := Tryz.func70.trans (congrArg some (by kernel_rfl))
  f314 := Tryz.func82.trans (congrArg some (by kernel_rfl))
  t3 := Tryz.underlying3
  a3 := Tryz.isAgg3
  z3 := Tryz.sizeOf3
  v3 := Tryz.zeroValue3
  t4 := Tryz.underlying4
  a4 := Tryz.isAgg4
  z4 := Tryz.sizeOf4
  v4 := Tryz.zeroValue4
  t5 := Tryz.underlying5
  a5 := Tryz.isAgg5
  z5 := Tryz.sizeOf5
  v5 := Tryz.zeroValue5
  t9 := Tryz.underlying9
  a9 := Tryz.isAgg9
  z9 := Tryz.sizeOf9
  v9 := Tryz.zeroValue9
  t46 := Tryz.underlying39
  a46 := Tryz.isAgg39
  z46 := Tryz.sizeOf39
  v46 := Tryz.zeroValue39
  t51 := Tryz.underlying86
  a51 := Tryz.isAgg86
  z51 := Tryz.sizeOf86
  v51 := Tryz.zeroValue86
  t59 := Tryz.underlying49
  a59 := Tryz.isAgg49
  z59 := Tryz.sizeOf49
  v59 := Tryz.zeroValue49
  t146 := Tryz.underlying87
  a146 := Tryz.isAgg87
  z146 := Tryz.sizeOf87
  v146 := Tryz.zeroValue87
  g1 := by kernel_rfl }
open Go.RowKit Go.Lib in
theorem Tryz.strings_Cut (s sep : ByteArray) (m : Int) (w : World) (hs : s.size < 4294967281) (hm : w.cell? ⟨0, 0, none⟩ = some (.int .i64 m)) :
    Calls Tryz.prog 26 #[.string s, .string sep] w fun e w' => e = .returned (.tuple #[.string ⟨(Lib.cut s.data.toList sep.data.toList).1.toArray⟩, .string ⟨(Lib.cut s.data.toList sep.data.toList).2.1.toArray⟩, .bool (Lib.cut s.data.toList sep.data.toList).2.2]) ∧ ∃ n, w' = w.drewN n := Any.strings_Cut Tryz.lays145 s sep m w hs hm
def Tryz.lays99_ren : Go.Shelf.Ren := ⟨fun | 99 => 16 | 206 => 23 | n => n, fun | 9 => 9 | 4 => 4 | 3 => 3 | n => n, fun | n => n⟩
theorem Tryz.lays99 : Go.Proofs.Lays.n99 Tryz.prog Tryz.lays99_ren := {
  mixed := by kernel_rfl
  f99 := Tryz.func16.trans (congrArg some (by kernel_rfl))
  f206 := Tryz.func23.trans (congrArg some (by kernel_rfl))
  t3 := Tryz.underlying3
  a3 := Tryz.isAgg3
  z3 := Tryz.sizeOf3
  v3 := Tryz.zeroValue3
  t4 := Tryz.underlying4
  a4 := Tryz.isAgg4
  z4 := Tryz.sizeOf4
  v4 := Tryz.zeroValue4
  t9 := Tryz.underlying9
  a9 := Tryz.isAgg9
  z9 := Tryz.sizeOf9
  v9 := Tryz.zeroValue9 }
open Go.RowKit Go.Lib in
theorem Tryz.strings_HasPrefix (s p : ByteArray) (w : World) :
    Calls Tryz.prog 16 #[.string s, .string p] w fun e w' => e = .returned (.bool (Lib.hasPrefix s.data.toList p.data.toList)) ∧ w' = w := Any.strings_HasPrefix Tryz.lays99 s p w
def Tryz.lays105_ren : Go.Shelf.Ren := ⟨fun | 105 => 31 | 167 => 39 | 212 => 45 | 99 => 16 | 165 => 46 | 166 => 35 | 170 => 47 | 169 => 33 | 263 => 58 | 264 => 59 | 206 => 23 | 240 => 52 | 241 => 60 | 276 => 64 | 277 => 72 | n => n, fun | 9 => 9 | 3 => 3 | 4 => 4 | 20 => 20 | 0 => 0 | 46 => 39 | 109 => 65 | 5 => 5 | 72 => 58 | 76 => 59 | 51 => 86 | 146 => 87 | 53 => 77 | 148 => 89 | 70 => 56 | 37 => 32 | 75 => 28 | 127 => 69 | 164 => 94 | 80 => 45 | n => n, fun | n => n⟩
theorem Tryz.lays105 : Go.Proofs.Lays.n105 Tryz.prog Tryz.lays105_ren := {
  mixed := by kernel_rfl
  f99 := Tryz.func16.trans (congrArg some (by kernel_rfl))
  f105 := Tryz.func31.trans (congrArg some (by kernel_rfl))
  f165 := Tryz.func46.trans (congrArg some (by kernel_rfl))
  f166 := Tryz.func35.trans (congrArg some (by kernel_rfl))
  f169 := Tryz.func33.trans (congrArg some (by kernel_rfl))
  f170 := Tryz.func47.trans (congrArg some (by kernel_rfl))
  f206 := Tryz.func23.trans (congrArg some (by kernel_rfl))
  f212 := Tryz.func45.trans (congrArg some (by kernel_rfl))
  f240 := Tryz.func52.trans (congrArg some (by kernel_rfl))
  f241 := Tryz.func60.trans (congrArg some (by kernel_rfl))
  f263 := Tryz.func58.trans (congrArg some (by kernel_rfl))
  f264 := Tryz.func59.trans (congrArg some (by kernel_rfl))
  f276 := Tryz.func64.trans (congrArg some (by kernel_rfl))
  f277 := Tryz.func72.trans (congrArg some (by kernel_rfl))
  t0 := Tryz.underlying0
  a0 := Tryz.isAgg0
  z0 := Tryz.sizeOf0
  v0 := Tryz.zeroValue0
  t3 := Tryz.underlying3
  a3 := Tryz.isAgg3
  z3 := Tryz.sizeOf3
  v3 := Tryz.zeroValue3
  t4 := Tryz.underlying4
  a4 := Tryz.isAgg4
  z4 := Tryz.sizeOf4
  v4 := Tryz.zeroValue4
  t5 := Tryz.underlying5
  a5 := Tryz.isAgg5
  z5 := Tryz.sizeOf5
  v5 := Tryz.zeroValue5
  t9 := Tryz.underlying9
  a9 := Tryz.isAgg9
  z9 := Tryz.sizeOf9
  v9 := Tryz.zeroValue9
  t20 := Tryz.underlying20
  a20 := Tryz.isAgg20
  z20 := Tryz.sizeOf20
  v20 := Tryz.zeroValue20
  t37 := Tryz.underlying32
  a37 := Tryz.isAgg32
  z37 := Tryz.sizeOf32
  v37 := Tryz.zeroValue32
  t46 := Tryz.underlying39
  a46 := Tryz.isAgg39
  z46 := Tryz.sizeOf39
  v46 := Tryz.zeroValue39
  t51 := Tryz.underlying86
  a51 := Tryz.isAgg86
  z51 := Tryz.sizeOf86
  v51 := Tryz.zeroValue86
  t53 := Tryz.underlying77
  a53 := Tryz.isAgg77
  z53 := Tryz.sizeOf77
  v53 := Tryz.zeroValue77
  t70 := Tryz.underlying56
  a70 := Tryz.isAgg56
  z70 := Tryz.sizeOf56
  v70 := Tryz.zeroValue56
  t72 := Tryz.underlying58
  a72 := Tryz.isAgg58
  z72 := Tryz.sizeOf58
  v72 := Tryz.zeroValue58
  t75 := Tryz.underlying28
  a75 := Tryz.isAgg28
  z75 := Tryz.sizeOf28
  v75 := Tryz.zeroValue28
  t76 := Tryz.underlying59
  a76 := Tryz.isAgg59
  z76 := Tryz.sizeOf59
  v76 := Tryz.zeroValue59
  t109 := Tryz.underlying65
  a109 := Tryz.isAgg65
  z109 := Tryz.sizeOf65
  v109 := Tryz.zeroValue65
  t127 := Tryz.underlying69
  a127 := Tryz.isAgg69
  z127 := Tryz.sizeOf69
  v127 := Tryz.zeroValue69
  t146 := Tryz.underlying87
  a146 := Tryz.isAgg87
  z146 := Tryz.sizeOf87
  v146 := Tryz.zeroValue87
  t148 := Tryz.underlying89
  a148 := Tryz.isAgg89
  z148 := Tryz.sizeOf89
  v148 := Tryz.zeroValue89
  t164 := Tryz.underlying94
  a164 := Tryz.isAgg94
  z164 := Tryz.sizeOf94
  v164 := Tryz.zeroValue94 }
theorem Tryz.Builder_Extra_105 : Builder.Extra Tryz.prog Tryz.lays105_ren := {
  sizeBuilder := by kernel_rfl
  liesBuilder := by kernel_rfl
  t5 := Tryz.underlying5
  a5 := Tryz.isAgg5
  z5 := Tryz.sizeOf5
  v5 := Tryz.zeroValue5
  infoByte := by kernel_rfl
  cellsByte := by kernel_rfl
  sizeByte := by kernel_rfl
  neB5 := by decide }
open Go.RowKit Go.Lib in
theorem Tryz.strings_Repeat (s : ByteArray) (c : Nat) (w : World) (hc : c ≤ 9223372036854775807) (hlen : s.size * c ≤ 140737488355328) :
    Calls Tryz.prog 31 #[.string s, .int .i64 c] w fun e w' => e = .returned (.string ⟨(Lib.repeatL s.data.toList c).toArray⟩) ∧ Below w.heap.size w w' := Any.strings_Repeat Tryz.lays105 Tryz.Builder_Extra_105 s c w hc hlen
theorem Tryz.lays167 : Go.Proofs.Lays.n167 Tryz.prog Tryz.lays105_ren := { Tryz.lays105 with f167 := Tryz.func39.trans (congrArg some (by kernel_rfl)) }
theorem Tryz.lays166 : Go.Proofs.Lays.n166 Tryz.prog Tryz.lays105_ren := { Tryz.lays105 with }
theorem Tryz.lays169 : Go.Proofs.Lays.n169 Tryz.prog Tryz.lays105_ren := { Tryz.lays105 with }
open Go.RowKit in
theorem Tryz.Builder_WriteByte_k (B b : Nat) (bs : List Value) (c : Int) (w : World) (h : Lib.IsBuilderF 58 5 B b bs w) (hlen : bs.length + 1 ≤ 140737488355328) (hBw : B ≤ w.heap.size) :
    Calls Tryz.prog 39 #[.pointer (some ⟨b, 0, none⟩), .int .u8 c] w fun e w' => e = .returned .nilIface ∧ (Lib.BuilderAtF 58 5 B b (.pointer (some ⟨b, 0, none⟩)) (bs ++ [.int .u8 c]) w' ∧ Below B w w' ∧ Lib.OthersKept 5 (some b) w w') := Any.Builder_WriteByte_k Tryz.lays167 Tryz.Builder_Extra_105 B b bs c w h hlen hBw
open Go.RowKit in
theorem Tryz.Builder_WriteString_k (B b : Nat) (bs : List Value) (s : ByteArray) (w : World) (h : Lib.IsBuilderF 58 5 B b bs w) (hlen : bs.length + s.size ≤ 140737488355328) (hBw : B ≤ w.heap.size) :
    Calls Tryz.prog 35 #[.pointer (some ⟨b, 0, none⟩), .string s] w fun e w' => e = .returned (.tuple #[.int .i64 s.size, .nilIface]) ∧ (Lib.BuilderAtF 58 5 B b (.pointer (some ⟨b, 0, none⟩)) (bs ++ Lib.strCells s) w' ∧ Below B w w' ∧ Lib.OthersKept 5 (some b) w w') := Any.Builder_WriteString_k Tryz.lays166 Tryz.Builder_Extra_105 B b bs s w h hlen hBw
open Go.RowKit in
theorem Tryz.Builder_String_any_k (B b : Nat) (l : List UInt8) (w : World) (h : Lib.IsBuilderF 58 5 B b (Lib.byteCells l) w) (hBw : B ≤ w.heap.size) :
    Calls Tryz.prog 33 #[.pointer (some ⟨b, 0, none⟩)] w fun e w' => e = .returned (.string ⟨l.toArray⟩) ∧ (Lib.IsBuilderF 58 5 B b (Lib.byteCells l) w' ∧ Below B w w' ∧ Lib.OthersKept 5 (some b) w w') := Any.Builder_String_any_k Tryz.lays169 Tryz.Builder_Extra_105 B b l w h hBw
end Go.Proofs
