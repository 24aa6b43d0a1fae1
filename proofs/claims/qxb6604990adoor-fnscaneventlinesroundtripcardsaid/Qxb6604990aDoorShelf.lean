import Derived.Shelf.Spec.DecodeRune
import Derived.Test.Qxb6604990aDoorProg
namespace Go.Proofs
open Go.Shelf
def Tryd.lays32_ren : Go.Shelf.Ren := ⟨fun | 32 => 15 | 49 => 22 | n => n, fun | 30 => 23 | 21 => 21 | 3 => 3 | 0 => 0 | 5 => 5 | 4 => 4 | 33 => 40 | 66 => 51 | 25 => 47 | 69 => 54 | 68 => 53 | n => n, fun | 2 => 1 | 3 => 2 | n => n⟩
theorem Tryd.lays32 : Go.Proofs.Lays7.n32 Tryd.prog Tryd.lays32_ren := {
  mixed := by kernel_rfl
  f32 := Tryd.func15.trans (congrArg some (by kernel_rfl))
  f49 := Tryd.func22.trans (congrArg some (by kernel_rfl))
  t0 := Tryd.underlying0
  a0 := Tryd.isAgg0
  z0 := Tryd.sizeOf0
  v0 := Tryd.zeroValue0
  i0 := by kernel_rfl
  t3 := Tryd.underlying3
  a3 := Tryd.isAgg3
  z3 := Tryd.sizeOf3
  v3 := Tryd.zeroValue3
  i3 := by kernel_rfl
  t4 := Tryd.underlying4
  a4 := Tryd.isAgg4
  z4 := Tryd.sizeOf4
  v4 := Tryd.zeroValue4
  i4 := by kernel_rfl
  t5 := Tryd.underlying5
  a5 := Tryd.isAgg5
  z5 := Tryd.sizeOf5
  v5 := Tryd.zeroValue5
  i5 := by kernel_rfl
  t21 := Tryd.underlying21
  a21 := Tryd.isAgg21
  z21 := Tryd.sizeOf21
  v21 := Tryd.zeroValue21
  i21 := by kernel_rfl
  t25 := Tryd.underlying47
  a25 := Tryd.isAgg47
  z25 := Tryd.sizeOf47
  v25 := Tryd.zeroValue47
  i25 := by kernel_rfl
  t30 := Tryd.underlying23
  a30 := Tryd.isAgg23
  z30 := Tryd.sizeOf23
  v30 := Tryd.zeroValue23
  i30 := by kernel_rfl
  t33 := Tryd.underlying40
  a33 := Tryd.isAgg40
  z33 := Tryd.sizeOf40
  v33 := Tryd.zeroValue40
  i33 := by kernel_rfl
  t66 := Tryd.underlying51
  a66 := Tryd.isAgg51
  z66 := Tryd.sizeOf51
  t68 := Tryd.underlying53
  a68 := Tryd.isAgg53
  z68 := Tryd.sizeOf53
  v68 := Tryd.zeroValue53
  i68 := by kernel_rfl
  t69 := Tryd.underlying54
  a69 := Tryd.isAgg54
  z69 := Tryd.sizeOf54
  v69 := Tryd.zeroValue54
  i69 := by kernel_rfl
  g2 := by kernel_rfl
  g3 := by kernel_rfl }
open Go.RowKit Go.Lib in
theorem Tryd.utf8_DecodeRune (s : ByteArray) (b off cap : Nat) (w : World) (hT : Lib.Utf8Tabs 1 2 w)
    (hp : ∀ j, j < s.size → w.cell? ⟨b, off + j, none⟩ = some (.int .u8 (s.get! j).toNat)) :
    Calls Tryd.prog 15 #[.slice (some ⟨b, off, none⟩) s.size cap] w fun e w' => e = .returned (.tuple #[.int .i32 (Lib.decodeGo s).1, .int .i64 (Lib.decodeGo s).2]) ∧ Below w.heap.size w w' := Any7.utf8_DecodeRune Tryd.lays32 s b off cap w hT hp

end Go.Proofs
