import Derived.RangeFuncFrom
import Derived.RangeFuncLeaves
import Derived.Shelf.Abstract
import Derived.WalkKit
import Derived.OwnWalkIn
import Derived.TacticsInMore
import Derived.LoopNIn
import Derived.LoopIn
import Derived.Test.Qxb6604117aDoorPlain
import Derived.Test.Qxb6604117aDoorShelf
namespace Go.Proofs.Qxb6604117aDoor
open Go.RowKit Go.Shelf

attribute [local go_sem] Oper.semAt_some

/-- How many bytes are still to come, read off the iterator's own variable. -/
def leftIn (B : Nat) (W : World) : Nat :=
  match W.cell? ⟨B, 0, none⟩ with
  | some (.string r) => r.size + 1
  | _ => 0

theorem leftIn_eq {B : Nat} {W : World} {r : ByteArray} (h : W.cell? ⟨B, 0, none⟩ = some (.string r)) : leftIn B W = r.size + 1 := by
  unfold leftIn; rw [h]

/-- The iterator's three variables. -/
structure Boxes (Bs Bp Bv : Nat) (r : ByteArray) (W : World) : Prop where
  s : W.cell? ⟨Bs, 0, none⟩ = some (.string r)
  sf : W.frozen? ⟨Bs, 0, none⟩ = false
  p : W.cell? ⟨Bp, 0, none⟩ = some (.string ⟨#[46]⟩)
  v : W.cell? ⟨Bv, 0, none⟩ = some (.int .i64 0)

theorem Boxes.below {Bs Bp Bv n₀ : Nat} {r : ByteArray} {W W' : World} (h : Boxes Bs Bp Bv r W) (hb : Below n₀ W W') (h1 : Bs < n₀) (h2 : Bp < n₀) (h3 : Bv < n₀) : Boxes Bs Bp Bv r W' :=
  ⟨(hb.cell (p := ⟨Bs, 0, none⟩) h1).trans h.s, (hb.frozen (p := ⟨Bs, 0, none⟩) h1).trans h.sf, (hb.cell (p := ⟨Bp, 0, none⟩) h2).trans h.p, (hb.cell (p := ⟨Bv, 0, none⟩) h3).trans h.v⟩

theorem Boxes.set {Bs Bp Bv : Nat} {r : ByteArray} {W : World} (h : Boxes Bs Bp Bv r W) (h1 : Bp ≠ Bs) (h2 : Bv ≠ Bs) (r' : ByteArray) : Boxes Bs Bp Bv r' (W.setCell ⟨Bs, 0, none⟩ (.string r')) :=
  ⟨World.cell?_setCell_same' _ _ _ (by rw [h.s]; rfl), by rw [World.frozen?_setCell]; exact h.sf,
   (World.cell?_setCell_other _ _ _ _ (by intro e; simp only [Addr.mk.injEq] at e; omega)).trans h.p,
   (World.cell?_setCell_other _ _ _ _ (by intro e; simp only [Addr.mk.injEq] at e; omega)).trans h.v⟩

/-- What the iterator of strings.SplitSeq(s, ".") promises. -/
def Came (J Jx : List (List UInt8) → World → Prop) (s : List UInt8) (W' : World) : Prop :=
  J (labels s) W' ∨ ∃ pre, pre <+: labels s ∧ Jx pre W'

set_option maxRecDepth 100000 in
set_option maxHeartbeats 1600000 in
theorem iter_in (n l Bs Bp Bv n₀ : Nat) (s : ByteArray) (hs : s.size ≤ 253) (J Jx : List (List UInt8) → World → Prop)
    (hn1 : Bp ≠ Bs) (hn2 : Bv ≠ Bs) (h1 : Bs < n₀) (h2 : Bp < n₀) (h3 : Bv < n₀)
    (hJs : ∀ pre W v, J pre W → J pre (W.setCell ⟨Bs, 0, none⟩ v))
    (hY : ∀ pre (x : ByteArray) W, J pre W → x.size ≤ 253 → YieldAt Fence.wide (n - 1) Tryd.prog l #[.string x] W fun e W' =>
      (e = .returned (.bool true) ∧ J (pre ++ [x.data.toList]) W' ∧ Below n₀ W W') ∨ (e = .returned (.bool false) ∧ Jx (pre ++ [x.data.toList]) W'))
    (W : World) (hX : Boxes Bs Bp Bv s W) (h0 : J [] W) :
    CallsIn Fence.wide n Tryd.prog 14 #[.func (.yield l) #[] #[], .pointer (some ⟨Bp, 0, none⟩), .pointer (some ⟨Bs, 0, none⟩), .pointer (some ⟨Bv, 0, none⟩)] W fun e W' =>
      (∃ v, e = .returned v) ∧ Came J Jx s.data.toList W' := by
  have c1 := hX.p
  have hd : Fence.wide.depth.isSome = true → 1 ≤ n := fun h => by simp [Fence.wide] at h
  refine callsIn_of_wp Tryd.func14 rfl trivial ?_ rfl
  simp only [Tryd.ntmps14, List.size_toArray, List.length_cons, List.length_nil, Nat.reduceAdd, Nat.reduceSub, Array.replicate_succ, Array.replicate_zero, List.push_toArray, List.append_toArray, List.nil_append, List.cons_append]
  gi_wp2
  clear c1
  gi_loopw [7] (fun _ wr => ∃ (pre : List (List UInt8)) (r : ByteArray), r.size ≤ s.size ∧ Hid (labels s.data.toList = pre ++ labels r.data.toList) ∧ Boxes Bs Bp Bv r wr ∧ J pre wr)
    (fun _ wr => leftIn Bs wr)
  case atStart =>
    exact ⟨[], s, Nat.le_refl _, by simp [Hid], hX, h0⟩
  case round =>
    obtain ⟨pre, r, hr, HE, hB, hJ⟩ := hrel
    have c1 := hB.s
    have c2 := hB.p
    have c3 := hB.v
    have c4 := hB.sf
    by_cases hi : Lib.indexByte r.data.toList 46 = -1
    · obtain ⟨fn, tmps, assign, body, hy, hR⟩ := hY pre r wr hJ (by omega)
      gi_wp2_with fail
      refine ⟨trivial, hd, (callsIn_wide.2 (Tryd.strings_Index_one r 46 wr)).mono ?_⟩
      rintro e w' ⟨he, rfl⟩
      rw [hi] at he
      subst he
      gi_wp2_with fail
      refine ⟨hd, hR.mono ?_⟩
      have hlab : labels s.data.toList = pre ++ [r.data.toList] := by rw [show labels s.data.toList = _ from HE, labels_none hi]
      rintro e W3 (⟨rfl, hJ3, hk3⟩ | ⟨rfl, hJx3⟩)
      · gi_wp2_with fail
        go_end0
        exact ⟨⟨_, rfl⟩, .inl (by rw [hlab]; exact hJ3)⟩
      · gi_wp2_with fail
        go_end0
        exact ⟨⟨_, rfl⟩, .inr ⟨_, by rw [hlab]; exact List.prefix_refl _, hJx3⟩⟩
    · obtain ⟨o, ho⟩ : ∃ o : Nat, Lib.indexByte r.data.toList 46 = o := ⟨(Lib.indexByte r.data.toList 46).toNat, by have := Lib.indexByte_ge r.data.toList 46; omega⟩
      have hol := (labels_some ho).2
      have hol' : o < r.size := hol
      obtain ⟨fn, tmps, assign, body, hy, hR⟩ := hY pre (r.extract 0 o) wr hJ (by simp; omega)
      gi_wp2_with fail
      refine ⟨trivial, hd, (callsIn_wide.2 (Tryd.strings_Index_one r 46 wr)).mono ?_⟩
      rintro e w' ⟨he, rfl⟩
      rw [ho] at he
      subst he
      gi_wp2_with fail
      refine ⟨hd, hR.mono ?_⟩
      have hlab : labels s.data.toList = pre ++ [(r.extract 0 o).data.toList] ++ labels (r.extract (o + 1) r.size).data.toList := by
        rw [show labels s.data.toList = _ from HE, (labels_some ho).1]
        simp [List.take_of_length_le]
      rintro e W3 (⟨rfl, hJ3, hk3⟩ | ⟨rfl, hJx3⟩)
      · have hB3 := hB.below hk3 h1 h2 h3
        clear c1 c2 c3 c4
        have c1 := hB3.s
        have c2 := hB3.p
        have c4 := hB3.sf
        gi_wp2_with fail
        go_roundw
        case rel =>
          exact ⟨pre ++ [(r.extract 0 o).data.toList], r.extract (o + 1) r.size, by simp; omega, hlab, hB3.set hn1 hn2 _, hJs _ _ _ hJ3⟩
        case measure =>
          rw [leftIn_eq (hB3.set hn1 hn2 _).s, leftIn_eq hB.s]
          simp; omega
      · gi_wp2_with fail
        refine bodyPost_ret (results_none rfl _ _ _) rfl ?_
        exact ⟨⟨_, rfl⟩, .inr ⟨_, by rw [hlab]; exact ⟨_, rfl⟩, hJx3⟩⟩
end Go.Proofs.Qxb6604117aDoor
