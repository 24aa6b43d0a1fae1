import Derived.Test.Qxb6604990aDoorSet
import Derived.Test.Qxb6604990aDoorShelf
import Derived.Test.Qxb6604990aDoorLaws
import Derived.Laws.RangeString
import Derived.Laws.RangeAny
import Derived.Laws.Externs
import Derived.Lib.IndexEntry
namespace Go.Proofs.Qxb6604990aDoor
open Go.RowKit

theorem run_ibs (c : UInt8) (w : World) : (callFunc 10 #[.string ⟨#[13, 10]⟩, .int .u8 (c.toNat : Int)]).run Tryd.prog w = .ok (.value (.int .i64 (Lib.indexByte [13, 10] c))) w := by
  rw [run_callFunc_extern Tryd.func10 (by kernel_rfl) (by kernel_rfl) (by kernel_rfl) (e := Extern.BytealgIndexByte.indexByte) (by kernel_rfl), Lib.run_indexByteString]
  simp [Result.andThen]

/-- Some bytes of a slice. -/
def Bts (w : World) (b off : Nat) (l : List UInt8) : Prop := ∀ k (h : k < l.length), w.cell? ⟨b, off + k, none⟩ = some (.int .u8 (l[k].toNat : Int))

def Fnd (w : World) (l : List UInt8) (e : Ending) (w' : World) : Prop := e = .returned (.int .i64 (Lib.indexAny l [13, 10])) ∧ Below w.heap.size w w'

theorem below_iter {B : Nat} {a w : World} (h : Below B a w) (hB : B ≤ w.heap.size) (s : ByteArray) (pos : Nat) : Below B a (w.iter s pos) := h.alloc hB _

theorem wrap_byte (c : UInt8) : wrap32 (c.toNat : Int) = (c.toNat : Int) := by
  have := UInt8.toNat_lt c
  unfold wrap32
  omega

theorem end_no {c : UInt8} (h : 128 ≤ c.toNat) : isEnd c = false := by
  have h1 : c ≠ 13 := fun e => by rw [e] at h; exact absurd h (by decide)
  have h2 : c ≠ 10 := fun e => by rw [e] at h; exact absurd h (by decide)
  simp [isEnd, h1, h2]

theorem single_no {c : UInt8} (h : ([13, 10] : List UInt8).contains c = false) : Lib.indexAny [c] [13, 10] = -1 := by
  rw [Lib.indexAny, h]; rfl
theorem single_yes {c : UInt8} (h : ([13, 10] : List UInt8).contains c = true) : Lib.indexAny [c] [13, 10] = 0 := by
  rw [Lib.indexAny, h]; rfl

/-- The next of the two line ends' bytes. -/
theorem next_at (w : World) (pos : Nat) (ty : TypeId) (h : pos < 2) : (Instr.next (.pointer (some ⟨w.heap.size, 0, none⟩)) true ty).run Tryd.prog (w.iter ⟨#[13, 10]⟩ pos) = .ok (.tuple #[.bool true, .int .i64 pos, .int .i32 (if pos = 0 then 13 else 10)]) (w.iter ⟨#[13, 10]⟩ (pos + 1)) := by
  match pos, h with
  | 0, _ => exact run_next_ascii w ⟨#[13, 10]⟩ 0 ty (by decide) (by decide)
  | 1, _ => exact run_next_ascii w ⟨#[13, 10]⟩ 1 ty (by decide) (by decide)

set_option maxRecDepth 100000 in
set_option maxHeartbeats 1600000 in
theorem any_one (b off cap : Nat) (c : UInt8) (w : World) (hp : w.cell? ⟨b, off, none⟩ = some (.int .u8 (c.toNat : Int))) :
    Calls Tryd.prog 9 #[.slice (some ⟨b, off, none⟩) 1 cap, .string ⟨#[13, 10]⟩] w fun e w' => Fnd w [c] e w' := by
  have hwc := wrap_byte c
  by_cases hc : 128 ≤ (c.toNat : Int)
  · have HI : Hid (Lib.indexAny [c] [13, 10] = -1) := by
      have := end_no (c := c) (by omega)
      rw [← contains_end] at this
      exact single_no this
    have hend := fun ty => run_next_end (P := Tryd.prog) w ⟨#[13, 10]⟩ 2 ty (by decide)
    have hn0 := fun ty => next_at w 0 ty (by decide)
    have hn1 := fun ty => next_at w 1 ty (by decide)
    go_enter Tryd.func9, Tryd.ntmps9
    go_wp2
    go_loopw [5] (fun _ wr => ∃ pos : Nat, pos ≤ 2 ∧ wr = w.iter ⟨#[13, 10]⟩ pos) (fun _ wr => 2 - wr.iterPos w.heap.size)
    case atStart => exact ⟨0, by omega, rfl⟩
    case round =>
      obtain ⟨pos, hpos, rfl⟩ := hrel
      match pos, hpos with
      | 0, _ =>
        go_wp2
        go_roundw
        case rel => exact ⟨1, by omega, rfl⟩
        case measure => simp
      | 1, _ =>
        go_wp2
        go_roundw
        case rel => exact ⟨2, by omega, rfl⟩
        case measure => simp
      | 2, _ =>
        go_wp2
        go_ret
        exact ⟨show Ending.returned (.int .i64 (-1)) = _ by rw [HI.out], below_iter (Below.refl _ _) (Nat.le_refl _) _ _⟩
  · have hib := run_ibs c
    have hcon := Lib.contains_iff_indexByte [13, 10] c
    cases hin : ([13, 10] : List UInt8).contains c
    · rw [hin] at hcon
      have hlt : ¬ ((0 : Int) ≤ Lib.indexByte [13, 10] c) := of_decide_eq_false hcon.symm
      have HI : Hid (Lib.indexAny [c] [13, 10] = -1) := single_no hin
      clear hcon hin
      go_enter Tryd.func9, Tryd.ntmps9
      go_wp2
      all_goals go_ret
      all_goals exact ⟨show Ending.returned (.int .i64 (-1)) = _ by rw [HI.out], Below.refl _ _⟩
    · rw [hin] at hcon
      have hge : (0 : Int) ≤ Lib.indexByte [13, 10] c := of_decide_eq_true hcon.symm
      have HI : Hid (Lib.indexAny [c] [13, 10] = 0) := single_yes hin
      clear hcon hin
      go_enter Tryd.func9, Tryd.ntmps9
      go_wp2
      all_goals go_ret
      all_goals exact ⟨show Ending.returned (.int .i64 0) = _ by rw [HI.out], Below.refl _ _⟩

set_option maxRecDepth 1000000 in
set_option maxHeartbeats 4000000 in
theorem any_long {P : Program} (L : TF P) (b off cap : Nat) (l : List UInt8) (w : World) (hl : 8 < l.length) (hl2 : l.length ≤ 1073741824) (hb : b < w.heap.size) (hp : Bts w b off l) :
    Calls P 9 #[.slice (some ⟨b, off, none⟩) l.length cap, .string ⟨#[13, 10]⟩] w fun e w' => Fnd w l e w' := by
  have HP : Hid (Bts w b off l) := hp
  clear hp
  have t3 := L.t3; have a3 := L.a3; have z3 := L.z3; have v3 := L.v3
  have t4 := L.t4; have a4 := L.a4; have z4 := L.z4; have v4 := L.v4
  have t5 := L.t5; have a5 := L.a5; have z5 := L.z5; have v5 := L.v5
  have t9 := L.t9; have a9 := L.a9; have z9 := L.z9; have v9 := L.v9
  have t21 := L.t21
  have t23 := L.t23; have a23 := L.a23; have z23 := L.z23
  have t36 := L.t36; have v36 := L.v36
  have e12 : ∀ args w, (callFunc 12 args).run P w = .ok (.enter 12 args) w := enters_of L.f12 (by kernel_rfl) rfl
  have e13 : ∀ args w, (callFunc 13 args).run P w = .ok (.enter 13 args) w := enters_of L.f13 (by kernel_rfl) rfl
  have e14 : ∀ args w, (callFunc 14 args).run P w = .ok (.enter 14 args) w := enters_of L.f14 (by kernel_rfl) rfl
  have h1 : ((l.length : Int) == 1) = false := by simp; omega
  have h8 : decide ((8 : Int) < (l.length : Int)) = true := by simp; omega
  go_enter L.f9, Tryd.ntmps9
  go_wp2_with fail
  refine (set_use L _ _).mono ?_
  rintro e w' ⟨rfl, rfl⟩
  rw [h8]
  go_wp2_with fail
  refine (set_make L ⟨#[13, 10]⟩ _ (by decide) ?_).mono ?_
  · intro j c hj
    match j, hj with
    | 0, hj => simp at hj; subst hj; decide
    | 1, hj => simp at hj; subst hj; decide
    | j + 2, hj => simp at hj
  rintro e w1 ⟨rfl, hw1⟩
  have hb1 : Below w'.heap.size w' w1 := by rw [hw1]; exact (Below.refl _ _).alloc (Nat.le_refl _) _
  clear hw1
  have hsz := Lib.setCells_size ([13, 10] : List UInt8)
  have hsc := run_storeCells_new (P := P) w1 36 (Array.replicate 256 (.bool false)) (Lib.setCells [13, 10]) (by rw [hsz]; exact L.i36) (by rw [hsz]; simp) (Lib.setCells_one _)
  have bl := HP.out
  obtain ⟨W, hW⟩ : ∃ W, w1.alloc (.cells (Lib.setCells [13, 10]) 36) = W := ⟨_, rfl⟩
  have hbW : Below w'.heap.size w' W := by rw [← hW]; exact hb1.alloc hb1.size _
  have HC : Hid (∀ x : UInt8, W.cell? ⟨w1.heap.size, x.toNat, none⟩ = some (.bool (([13, 10] : List UInt8).contains x))) := fun x => by
    rw [cell_of_row W w1.heap.size x.toNat (Lib.setCells [13, 10]) 36 (0, 0) (by rw [← hW]; exact heap_alloc_last w1 _)]
    exact Lib.setCells_at _ x
  have HP2 : Hid (Bts W b off l) := fun k hk => (hbW.cell (p := ⟨b, off + k, none⟩) hb).trans (HP.out k hk)
  go_wp2_with fail
  simp only [L.z36, Result.andThen, ↓reduceIte, hsc]
  rw [Oper.upon_skip, hW]
  clear hsc hW bl
  go_wp2_with fail
  go_loop [62] (fun iv => ∃ k : Nat, k ≤ l.length ∧ iv = .int .i64 k ∧ Hid (Lib.NoAny l [13, 10] k)) (fun iv => l.length - (intOf iv).toNat)
  case atStart => exact ⟨0, Nat.zero_le _, rfl, Lib.NoAny.zero _ _⟩
  case round =>
    obtain ⟨k, hk, rfl, HN⟩ := hrel
    by_cases hlt : k < l.length
    · have ck := HP2.out k hlt
      have cc := HC.out l[k]
      have Hx : Hid (l[k]? = some l[k]) := List.getElem?_eq_getElem hlt
      cases hin : ([13, 10] : List UInt8).contains l[k]
      · rw [hin] at cc
        have HN' : Hid (Lib.NoAny l [13, 10] (k + 1)) := HN.out.succ Hx.out hin
        clear hin Hx
        go_wp2_with fail
        refine (set_contains L w1.heap.size l[k] false W cc).mono ?_
        rintro e w2 ⟨rfl, rfl⟩
        go_wp2
        go_round
        case rel => exact ⟨k + 1, by omega, by go_num, HN'⟩
        case measure => simp [intOf]; omega
      · rw [hin] at cc
        have HI : Hid (Lib.indexAny l [13, 10] = (k : Int)) := Lib.indexAny_hit HN.out Hx.out hin
        clear hin Hx
        go_wp2_with fail
        refine (set_contains L w1.heap.size l[k] true W cc).mono ?_
        rintro e w2 ⟨rfl, rfl⟩
        go_wp2
        go_ret
        exact ⟨show Ending.returned (.int .i64 (k : Int)) = _ by rw [HI.out], hbW⟩
    · obtain rfl : k = l.length := by omega
      have HI : Hid (Lib.indexAny l [13, 10] = -1) := Lib.indexAny_none HN.out
      go_wp2
      go_ret
      exact ⟨show Ending.returned (.int .i64 (-1)) = _ by rw [HI.out], hbW⟩
end Go.Proofs.Qxb6604990aDoor
