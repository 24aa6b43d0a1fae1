import Derived.Shelf.Strings.Search1
import Derived.Shelf.Strings.Search2
import Derived.Shelf.Strings.Search3
import Derived.Shelf.Strings.Prefix
import Derived.Test.Qxb6604117aDoorProg
namespace Go.Proofs
open Go.Shelf
def Tryd.lays217_ren : Go.Shelf.Ren := ⟨fun | 217 => 19 | 266 => 23 | n => n, fun | 9 => 9 | 5 => 5 | 3 => 3 | n => n, fun | n => n⟩
theorem Tryd.lays217 : Go.Proofs.Lays.n217 Tryd.prog Tryd.lays217_ren := {
  mixed := by kernel_rfl
  f217 := Tryd.func19.trans (congrArg some (by kernel_rfl))
  f266 := Tryd.func23.trans (congrArg some (by kernel_rfl))
  t3 := Tryd.underlying3
  a3 := Tryd.isAgg3
  z3 := Tryd.sizeOf3
  v3 := Tryd.zeroValue3
  t5 := Tryd.underlying5
  a5 := Tryd.isAgg5
  z5 := Tryd.sizeOf5
  v5 := Tryd.zeroValue5
  t9 := Tryd.underlying9
  a9 := Tryd.isAgg9
  z9 := Tryd.sizeOf9
  v9 := Tryd.zeroValue9 }
def Tryd.lays219_ren : Go.Shelf.Ren := ⟨fun | 219 => 18 | 217 => 19 | 225 => 20 | 224 => 21 | 267 => 22 | 266 => 23 | 314 => 24 | n => n, fun | 9 => 9 | 3 => 3 | 4 => 4 | 5 => 5 | 46 => 36 | 146 => 43 | 51 => 42 | n => n, fun | 1 => 2 | n => n⟩
theorem Tryd.lays219 : Go.Proofs.Lays.n219 Tryd.prog Tryd.lays219_ren := {
  mixed := by kernel_rfl
  f217 := Tryd.func19.trans (congrArg some (by kernel_rfl))
  f219 := Tryd.func18.trans (congrArg some (by kernel_rfl))
  f224 := Tryd.func21.trans (congrArg some (by kernel_rfl))
  f225 := Tryd.func20.trans (congrArg some (by kernel_rfl))
  f266 := Tryd.func23.trans (congrArg some (by kernel_rfl))
  f267 := Tryd.func22.trans (congrArg some (by kernel_rfl))
  f314 := Tryd.func24.trans (congrArg some (by kernel_rfl))
  t3 := Tryd.underlying3
  a3 := Tryd.isAgg3
  z3 := Tryd.sizeOf3
  v3 := Tryd.zeroValue3
  t4 := Tryd.underlying4
  a4 := Tryd.isAgg4
  z4 := Tryd.sizeOf4
  v4 := Tryd.zeroValue4
  t5 := Tryd.underlying5
  a5 := Tryd.isAgg5
  z5 := Tryd.sizeOf5
  v5 := Tryd.zeroValue5
  t9 := Tryd.underlying9
  a9 := Tryd.isAgg9
  z9 := Tryd.sizeOf9
  v9 := Tryd.zeroValue9
  t46 := Tryd.underlying36
  a46 := Tryd.isAgg36
  z46 := Tryd.sizeOf36
  v46 := Tryd.zeroValue36
  t51 := Tryd.underlying42
  a51 := Tryd.isAgg42
  z51 := Tryd.sizeOf42
  v51 := Tryd.zeroValue42
  t146 := Tryd.underlying43
  a146 := Tryd.isAgg43
  z146 := Tryd.sizeOf43
  v146 := Tryd.zeroValue43
  g1 := by kernel_rfl }
def Tryd.lays143_ren : Go.Shelf.Ren := ⟨fun | 143 => 16 | 219 => 18 | 217 => 19 | 225 => 20 | 224 => 21 | 267 => 22 | 266 => 23 | 314 => 24 | n => n, fun | 9 => 9 | 3 => 3 | 4 => 4 | 5 => 5 | 46 => 36 | 146 => 43 | 51 => 42 | n => n, fun | 1 => 2 | n => n⟩
theorem Tryd.lays143 : Go.Proofs.Lays.n143 Tryd.prog Tryd.lays143_ren := {
  mixed := by kernel_rfl
  f143 := Tryd.func16.trans (congrArg some (by kernel_rfl))
  f217 := Tryd.func19.trans (congrArg some (by kernel_rfl))
  f219 := Tryd.func18.trans (congrArg some (by kernel_rfl))
  f224 := Tryd.func21.trans (congrArg some (by kernel_rfl))
  f225 := Tryd.func20.trans (congrArg some (by kernel_rfl))
  f266 := Tryd.func23.trans (congrArg some (by kernel_rfl))
  f267 := Tryd.func22.trans (congrArg some (by kernel_rfl))
  f314 := Tryd.func24.trans (congrArg some (by kernel_rfl))
  t3 := Tryd.underlying3
  a3 := Tryd.isAgg3
  z3 := Tryd.sizeOf3
  v3 := Tryd.zeroValue3
  t4 := Tryd.underlying4
  a4 := Tryd.isAgg4
  z4 := Tryd.sizeOf4
  v4 := Tryd.zeroValue4
  t5 := Tryd.underlying5
  a5 := Tryd.isAgg5
  z5 := Tryd.sizeOf5
  v5 := Tryd.zeroValue5
  t9 := Tryd.underlying9
  a9 := Tryd.isAgg9
  z9 := Tryd.sizeOf9
  v9 := Tryd.zeroValue9
  t46 := Tryd.underlying36
  a46 := Tryd.isAgg36
  z46 := Tryd.sizeOf36
  v46 := Tryd.zeroValue36
  t51 := Tryd.underlying42
  a51 := Tryd.isAgg42
  z51 := Tryd.sizeOf42
  v51 := Tryd.zeroValue42
  t146 := Tryd.underlying43
  a146 := Tryd.isAgg43
  z146 := Tryd.sizeOf43
  v146 := Tryd.zeroValue43
  g1 := by kernel_rfl }
open Go.RowKit Go.Lib in
theorem Tryd.strings_Index_one (s : ByteArray) (c : UInt8) (w : World) :
    Calls Tryd.prog 16 #[.string s, .string ⟨#[c]⟩] w fun e w' => e = .returned (.int .i64 (Lib.indexByte s.data.toList c)) ∧ w' = w := Any.strings_Index_one Tryd.lays143 s c w
def Tryd.lays206_ren : Go.Shelf.Ren := ⟨fun | 206 => 13 | n => n, fun | 9 => 9 | 4 => 4 | 3 => 3 | n => n, fun | n => n⟩
theorem Tryd.lays206 : Go.Proofs.Lays.n206 Tryd.prog Tryd.lays206_ren := {
  mixed := by kernel_rfl
  f206 := Tryd.func13.trans (congrArg some (by kernel_rfl))
  t3 := Tryd.underlying3
  a3 := Tryd.isAgg3
  z3 := Tryd.sizeOf3
  v3 := Tryd.zeroValue3
  t4 := Tryd.underlying4
  a4 := Tryd.isAgg4
  z4 := Tryd.sizeOf4
  v4 := Tryd.zeroValue4
  t9 := Tryd.underlying9
  a9 := Tryd.isAgg9
  z9 := Tryd.sizeOf9
  v9 := Tryd.zeroValue9 }
def Tryd.lays208_ren : Go.Shelf.Ren := ⟨fun | 208 => 11 | 206 => 13 | n => n, fun | 9 => 9 | 4 => 4 | 3 => 3 | n => n, fun | n => n⟩
theorem Tryd.lays208 : Go.Proofs.Lays.n208 Tryd.prog Tryd.lays208_ren := {
  mixed := by kernel_rfl
  f206 := Tryd.func13.trans (congrArg some (by kernel_rfl))
  f208 := Tryd.func11.trans (congrArg some (by kernel_rfl))
  t3 := Tryd.underlying3
  a3 := Tryd.isAgg3
  z3 := Tryd.sizeOf3
  v3 := Tryd.zeroValue3
  t4 := Tryd.underlying4
  a4 := Tryd.isAgg4
  z4 := Tryd.sizeOf4
  v4 := Tryd.zeroValue4
  t9 := Tryd.underlying9
  a9 := Tryd.isAgg9
  z9 := Tryd.sizeOf9
  v9 := Tryd.zeroValue9 }
def Tryd.lays101_ren : Go.Shelf.Ren := ⟨fun | 101 => 9 | 208 => 11 | 206 => 13 | n => n, fun | 9 => 9 | 4 => 4 | 3 => 3 | n => n, fun | n => n⟩
theorem Tryd.lays101 : Go.Proofs.Lays.n101 Tryd.prog Tryd.lays101_ren := {
  mixed := by kernel_rfl
  f101 := Tryd.func9.trans (congrArg some (by kernel_rfl))
  f206 := Tryd.func13.trans (congrArg some (by kernel_rfl))
  f208 := Tryd.func11.trans (congrArg some (by kernel_rfl))
  t3 := Tryd.underlying3
  a3 := Tryd.isAgg3
  z3 := Tryd.sizeOf3
  v3 := Tryd.zeroValue3
  t4 := Tryd.underlying4
  a4 := Tryd.isAgg4
  z4 := Tryd.sizeOf4
  v4 := Tryd.zeroValue4
  t9 := Tryd.underlying9
  a9 := Tryd.isAgg9
  z9 := Tryd.sizeOf9
  v9 := Tryd.zeroValue9 }
open Go.RowKit Go.Lib in
theorem Tryd.strings_TrimPrefix (s p : ByteArray) (w : World) :
    Calls Tryd.prog 9 #[.string s, .string p] w fun e w' => e = .returned (.string ⟨(Lib.trimPrefix s.data.toList p.data.toList).toArray⟩) ∧ w' = w := Any.strings_TrimPrefix Tryd.lays101 s p w
end Go.Proofs
