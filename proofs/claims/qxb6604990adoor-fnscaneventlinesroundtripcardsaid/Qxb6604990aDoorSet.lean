import Derived.Test.Qxb6604990aDoorPlain
import Derived.Test.Qxb6604990aDoorProg
import Derived.WalkKit
import Derived.Below
import Derived.Lib.Walk
import Derived.Lib.Strings
import Derived.Lib.IndexBytes
import Derived.Lib.AsciiSet
import Derived.Laws.Strings3
import Derived.Laws.ResultCell
import Derived.Deep.LoopGhost
import Derived.Deep.WholeRow
namespace Go.Proofs.Qxb6604990aDoor
open Go.RowKit Go.Lib

/-- What the walks of the ASCII set want of a program: the set's type stays shut, else the walk opens 256 loads. -/
structure TF (P : Program) : Prop where
  f9 : P.funcs[9]? = some Tryd.f9
  f12 : P.funcs[12]? = some Tryd.f12
  f13 : P.funcs[13]? = some Tryd.f13
  f14 : P.funcs[14]? = some Tryd.f14
  t3 : P.underlying 3 = some (.int .i64)
  a3 : ∀ w, (isAgg 3).run P w = .ok false w
  z3 : ∀ w, (Go.sizeOf 3).run P w = .ok 1 w
  v3 : ∀ w, (zeroValue 3).run P w = .ok (.int .i64 0) w
  t4 : P.underlying 4 = some .bool
  a4 : ∀ w, (isAgg 4).run P w = .ok false w
  z4 : ∀ w, (Go.sizeOf 4).run P w = .ok 1 w
  v4 : ∀ w, (zeroValue 4).run P w = .ok (.bool false) w
  t5 : P.underlying 5 = some (.int .u8)
  a5 : ∀ w, (isAgg 5).run P w = .ok false w
  z5 : ∀ w, (Go.sizeOf 5).run P w = .ok 1 w
  v5 : ∀ w, (zeroValue 5).run P w = .ok (.int .u8 0) w
  t9 : P.underlying 9 = some .string
  a9 : ∀ w, (isAgg 9).run P w = .ok false w
  z9 : ∀ w, (Go.sizeOf 9).run P w = .ok 1 w
  v9 : ∀ w, (zeroValue 9).run P w = .ok (.string ⟨#[]⟩) w
  t21 : P.underlying 21 = some (.int .i32)
  t23 : P.underlying 23 = some (.slice 5)
  a23 : ∀ w, (isAgg 23).run P w = .ok false w
  z23 : ∀ w, (Go.sizeOf 23).run P w = .ok 1 w
  t36 : P.underlying 36 = some (.array 256 4)
  a36 : ∀ w, (isAgg 36).run P w = .ok true w
  z36 : ∀ w, (Go.sizeOf 36).run P w = .ok 256 w
  v36 : ∀ w, (zeroValue 36).run P w = .ok (.agg (Array.replicate 256 (.bool false))) w
  i36 : (P.info? 36).map (·.size) = some 256

variable {P : Program}

set_option maxHeartbeats 4000000 in
set_option maxRecDepth 1000000 in
theorem set_make (L : TF P) (chars : ByteArray) (w : World) (hs : chars.size < 4294967281) (hascii : ∀ (j : Nat) b, chars.data.toList[j]? = some b → b.toNat < 128) :
    Calls P 13 #[.string chars] w fun e w' => e = .returned (.tuple #[.agg (Lib.setCells chars.data.toList), .bool true]) ∧ w' = w.alloc (.cells (Lib.setCells chars.data.toList) 36) := by
  have HA : Hid (∀ (j : Nat) b, chars.data.toList[j]? = some b → b.toNat < 128) := hascii
  clear hascii
  have t3 := L.t3; have a3 := L.a3; have z3 := L.z3; have v3 := L.v3
  have t4 := L.t4; have a4 := L.a4; have z4 := L.z4; have v4 := L.v4
  have t5 := L.t5; have a5 := L.a5; have z5 := L.z5; have v5 := L.v5
  have t9 := L.t9; have a9 := L.a9; have z9 := L.z9; have v9 := L.v9
  have t36 := L.t36; have v36 := L.v36
  have i36 := L.i36
  go_enter L.f13, Tryd.ntmps13
  go_wp2
  rw [← Lib.setCells_nil]
  go_loopg [4] chars.size (fun g s4 wx => ∃ i : Nat, i + g = chars.size ∧ s4 = .int .i64 i ∧ wx = w.alloc (.cells (Lib.setCells (chars.data.toList.take i)) 36))
  case atStart => exact ⟨0, by omega, rfl, rfl⟩
  case round =>
    obtain ⟨i, hig, rfl, rfl⟩ := hrel
    cases gk with
    | zero =>
      obtain rfl : i = chars.size := by omega
      have hiz : ¬ ((chars.size : Int) < (chars.size : Int)) := by omega
      rw [show chars.data.toList.take chars.size = chars.data.toList from List.take_of_length_le (by simp)]
      have hld := run_loadVar_new (P := P) w 36 (Lib.setCells chars.data.toList) 256 4 L.t36 (by rw [Lib.setCells_size]; exact L.i36)
      have hsz := Lib.setCells_size chars.data.toList
      have hlc := run_loadCellsFrom_new (P := P) w 36 (Lib.setCells chars.data.toList) 256 hsz
      have hsc := run_storeCells_new (P := P) w 36 (Lib.setCells chars.data.toList) (Lib.setCells chars.data.toList) (by rw [hsz]; exact L.i36) rfl (Lib.setCells_one _)
      go_wp2
      simp only [L.a36, L.z36, Result.andThen, ↓reduceIte, hlc]
      rw [Oper.upon_value]
      go_wp2
      simp only [L.z36, Result.andThen, ↓reduceIte, hsc]
      rw [Oper.upon_skip]
      go_wp2
      refine bodyPost_ret (v := .tuple #[.agg (Lib.setCells chars.data.toList), .bool true]) ?_ rfl ⟨rfl, rfl⟩
      rw [results_cell_tmp rfl]
      simp [asAddr, Result.andThen, hld]
    | succ g =>
      have hi : i < chars.size := by omega
      have hiz : (i : Int) < (chars.size : Int) := by omega
      obtain ⟨x, hx⟩ : ∃ x : UInt8, chars[i]'hi = x := ⟨_, rfl⟩
      have hxl : chars.data.toList[i]? = some x := by rw [← hx]; exact Lib.data_getElem? chars i hi
      have hx128 : ¬ ((128 : Int) ≤ (x.toNat : Int)) := by have := HA.out i x hxl; omega
      have hx256 : (x.toNat : Int) < 256 := by have := HA.out i x hxl; omega
      have hcell := Lib.setCells_at (chars.data.toList.take i) x
      have Hx : Hid (chars.data.toList[i]? = some x) := hxl
      clear hxl
      go_wp2
      go_roundg g
      case measure => omega
      case rel => exact ⟨i + 1, by omega, by first | rfl | simp, by rw [List.take_add_one, Hx.out]; simp only [Option.toList]; rw [Lib.setCells_snoc]⟩

set_option maxHeartbeats 2000000 in
set_option maxRecDepth 1000000 in
theorem set_contains (L : TF P) (b : Nat) (x : UInt8) (v : Bool) (w : World) (hc : w.cell? ⟨b, x.toNat, none⟩ = some (.bool v)) :
    Calls P 14 #[.pointer (some ⟨b, 0, none⟩), .int .u8 (x.toNat : Int)] w fun e w' => e = .returned (.bool v) ∧ w' = w := by
  have hx256 : (x.toNat : Int) < 256 := by have := UInt8.toNat_lt x; omega
  have t4 := L.t4; have a4 := L.a4; have z4 := L.z4; have v4 := L.v4
  have t5 := L.t5; have a5 := L.a5; have z5 := L.z5; have v5 := L.v5
  have t36 := L.t36
  go_enter L.f14, Tryd.ntmps14
  go_wp2
  go_ret
  exact ⟨rfl, rfl⟩

set_option maxRecDepth 1000000 in
theorem set_use (L : TF P) (n : Int) (w : World) : Calls P 12 #[.int .i64 n] w fun e w' => e = .returned (.bool (decide (8 < n))) ∧ w' = w := by
  have t3 := L.t3; have a3 := L.a3; have z3 := L.z3; have v3 := L.v3
  have t4 := L.t4; have a4 := L.a4; have z4 := L.z4; have v4 := L.v4
  go_enter L.f12, Tryd.ntmps12
  go_wp2
  go_ret
  exact ⟨rfl, rfl⟩

theorem Tryd.tf : TF Tryd.prog :=
  ⟨Tryd.func9, Tryd.func12, Tryd.func13, Tryd.func14, Tryd.underlying3, Tryd.isAgg3, Tryd.sizeOf3, Tryd.zeroValue3, Tryd.underlying4, Tryd.isAgg4, Tryd.sizeOf4, Tryd.zeroValue4, Tryd.underlying5, Tryd.isAgg5, Tryd.sizeOf5, Tryd.zeroValue5,
   Tryd.underlying9, Tryd.isAgg9, Tryd.sizeOf9, Tryd.zeroValue9, Tryd.underlying21, Tryd.underlying23, Tryd.isAgg23, Tryd.sizeOf23, Tryd.underlying36, Tryd.isAgg36, Tryd.sizeOf36, fun _ => by kernel_rfl, by kernel_rfl⟩

end Go.Proofs.Qxb6604990aDoor
