import Derived.Test.Qxb6604990aDoorAny
import Derived.Lib.IndexLaws
import Derived.Deep.DeepCutAuto
import Derived.Deep.CutBlock
namespace Go.Proofs.Qxb6604990aDoor
open Go.RowKit

theorem longer_no {a b : List UInt8} (h : a.length < b.length) : Lib.index a b = -1 := by
  refine Lib.index_none fun j _ => ?_
  unfold Lib.occAt
  rw [Bool.eq_false_iff]
  intro hp
  have := (List.isPrefixOf_iff_prefix.1 hp).length_le
  simp at this
  omega

theorem run_is (e : ByteArray) (h3 : 3 ≤ e.size) (m : Int) (hkm : (e.size : Int) ≤ m) (w : World) (hm : w.cell? ⟨0, 0, none⟩ = some (.int .i64 m)) :
    (callFunc 16 #[.string ⟨#[13, 10]⟩, .string e]).run Tryd.prog w = .ok (.value (.int .i64 (-1))) w := by
  rw [run_callFunc_extern Tryd.func16 (by kernel_rfl) (by kernel_rfl) (by kernel_rfl) (e := Extern.BytealgIndex.index) (by kernel_rfl), Lib.run_indexString _ _ w 0 m (by kernel_rfl) hm (by omega) hkm (by decide)]
  rw [longer_no (by simp; omega)]
  simp [Result.andThen]

theorem tabs_below {g3 g4 : Nat} {w w' : World} (h : Lib.Utf8Tabs g3 g4 w) (hb : Below w.heap.size w w') : Lib.Utf8Tabs g3 g4 w' := by
  have lt : ∀ {p : Addr} {v : Value}, w.cell? p = some v → p.block < w.heap.size := fun {p v} hc => by
    unfold World.cell? at hc
    cases hh : w.heap[p.block]? with
    | none => rw [hh] at hc; simp at hc
    | some o => exact (Array.getElem?_eq_some_iff.1 hh).1
  refine ⟨fun c hc => ?_, fun i hi => ⟨?_, ?_⟩⟩
  · have := h.1 c hc
    exact (hb.cell (lt this)).trans this
  · have := (h.2 i hi).1
    exact (hb.cell (lt this)).trans this
  · have := (h.2 i hi).2
    exact (hb.cell (lt this)).trans this

theorem enc_ne {r d : Nat} (h : (Utf8.encode (r : Int)).size = d) (hd : d = 2) : (([13, 10] : List UInt8) == (Utf8.encode (r : Int)).toList) = false := by
  rw [beq_eq_false_iff_ne]
  intro e
  rw [ByteArray.toList_eq] at e
  subst hd
  unfold Utf8.encode at e h
  generalize (if Utf8.valid (r : Int) = true then (r : Int).toNat else Utf8.runeError) = c at e h
  simp only at e h
  split at e
  · simp at e
  · split at e
    · simp at e
      have h2 := congrArg UInt8.toNat e.1
      simp at h2
      omega
    · split at e
      · simp at e
      · simp at e

/-- What is left of the bytes, as a string. -/
def tailB (l : List UInt8) (k : Nat) : ByteArray := ⟨(l.drop k).toArray⟩
theorem tailB_size (l : List UInt8) (k : Nat) : (tailB l k).size = l.length - k := by simp [tailB, ByteArray.size]
theorem tailB_get (l : List UInt8) (k j : Nat) (h : k + j < l.length) : (tailB l k).get! j = l[k + j] := by
  have hj : j < (l.drop k).toArray.size := by simp; omega
  show (l.drop k).toArray[j]! = _
  rw [getElem!_pos (l.drop k).toArray j hj]
  simp

theorem noany_skip {l : List UInt8} {k d : Nat} (h : Lib.NoAny l [13, 10] k) (hd : ∀ j (hj : k + j < l.length), j < d → 128 ≤ l[k + j].toNat) : Lib.NoAny l [13, 10] (k + d) := by
  intro j b hj hb
  by_cases hk : j < k
  · exact h j b hk hb
  · have hlt : j < l.length := (List.getElem?_eq_some_iff.1 hb).1
    have := hd (j - k) (by omega) (by omega)
    have e : l[k + (j - k)]'(by omega) = b := by
      have : l[k + (j - k)]? = some b := by rw [show k + (j - k) = j from by omega]; exact hb
      exact (List.getElem?_eq_some_iff.1 this).2
    rw [e] at this
    rw [contains_end]
    exact end_no this

set_option maxRecDepth 1000000 in
set_option maxHeartbeats 4000000 in
theorem any_short (b off cap : Nat) (l : List UInt8) (m : Int) (w : World) (hl : l.length ≤ 8) (hl1 : l.length ≠ 1) (hcap : l.length ≤ cap) (hb : b < w.heap.size) (hp : Bts w b off l) (hT : Lib.Utf8Tabs 1 2 w) (hm : w.cell? ⟨0, 0, none⟩ = some (.int .i64 m)) (h0 : 0 < w.heap.size) :
    Calls Tryd.prog 9 #[.slice (some ⟨b, off, none⟩) l.length cap, .string ⟨#[13, 10]⟩] w fun e w' => Fnd w l e w' := by
  have HP : Hid (Bts w b off l) := hp
  have HT : Hid (Lib.Utf8Tabs 1 2 w) := hT
  clear hp hT
  have h1 : ((l.length : Int) == 1) = false := by simp; omega
  have h8 : decide ((8 : Int) < (l.length : Int)) = false := by simp; omega
  go_enter Tryd.func9, Tryd.ntmps9
  go_wp2_with fail
  refine (set_use Tryd.tf _ _).mono ?_
  rintro e w' ⟨rfl, rfl⟩
  rw [h8]
  go_wp2_with fail
  clear h8 h1
  go_loopw [12] (fun iv wr => ∃ k : Nat, k ≤ l.length ∧ iv = .int .i64 k ∧ Hid (Lib.NoAny l [13, 10] k) ∧ Below w'.heap.size w' wr) (fun iv _ => l.length - (intOf iv).toNat)
  case atStart => exact ⟨0, Nat.zero_le _, rfl, Lib.NoAny.zero _ _, Below.refl _ _⟩
  case round =>
    obtain ⟨k, hk, rfl, HN, hB⟩ := hrel
    by_cases hlt : k < l.length
    · have ck : wr.cell? ⟨b, off + k, none⟩ = some (.int .u8 (l[k].toNat : Int)) := (hB.cell (p := ⟨b, off + k, none⟩) hb).trans (HP.out k hlt)
      have hwb := wrap_byte l[k]
      have Hx : Hid (l[k]? = some l[k]) := List.getElem?_eq_getElem hlt
      by_cases ha : (l[k].toNat : Int) < 128
      · have hib := run_ibs l[k]
        have hcon := Lib.contains_iff_indexByte [13, 10] l[k]
        cases hin : ([13, 10] : List UInt8).contains l[k]
        · rw [hin] at hcon
          have hlt' : ¬ ((0 : Int) ≤ Lib.indexByte [13, 10] l[k]) := of_decide_eq_false hcon.symm
          have HN' : Hid (Lib.NoAny l [13, 10] (k + 1)) := HN.out.succ Hx.out hin
          clear hcon hin Hx
          go_wp2
          go_roundw
          case rel => exact ⟨k + 1, by omega, by go_num, HN', hB⟩
          case measure => simp [intOf]; omega
        · rw [hin] at hcon
          have hge : (0 : Int) ≤ Lib.indexByte [13, 10] l[k] := of_decide_eq_true hcon.symm
          have HI : Hid (Lib.indexAny l [13, 10] = (k : Int)) := Lib.indexAny_hit HN.out Hx.out hin
          clear hcon hin Hx
          go_wp2
          go_ret
          exact ⟨show Ending.returned (.int .i64 (k : Int)) = _ by rw [HI.out], hB⟩
      · have hsz := tailB_size l k
        have F := decodeGo_facts (tailB l k) (by omega) (by rw [tailB_get l k 0 (by omega)]; simp only [Nat.add_zero]; omega)
        have call := Tryd.utf8_DecodeRune (tailB l k) b (off + k) (cap - k) wr (tabs_below HT.out hB) (fun j hj => by
          rw [tailB_get l k j (by omega), Nat.add_assoc]
          exact (hB.cell (p := ⟨b, off + (k + j), none⟩) hb).trans (HP.out (k + j) (by omega)))
        rw [hsz] at call
        obtain ⟨r, d, hrd⟩ : ∃ r d, Lib.decodeGo (tailB l k) = (r, d) := ⟨_, _, rfl⟩
        rw [hrd] at call F
        obtain ⟨f1, f2, f3, f4, f5, f6⟩ := F
        simp only at f1 f2 f3 f4 f5 f6 call
        have HN' : Hid (Lib.NoAny l [13, 10] (k + d)) := noany_skip HN.out (fun j hj hjd => by have := f5 j hjd; rwa [tailB_get l k j hj] at this)
        have hkd : k + d ≤ l.length := by omega
        have CALL := call
        clear hrd f5 f4 hsz Hx call
        go_wp2_with fail
        refine CALL.mono ?_
        rintro e w2 ⟨rfl, hb2⟩
        clear CALL
        have hB2 : Below w'.heap.size w' w2 := hB.trans (hb2.mono hB.size)
        have hm2 : w2.cell? ⟨0, 0, none⟩ = some (.int .i64 m) := (hB2.cell (p := ⟨0, 0, none⟩) h0).trans hm
        clear hb2 ck hB hwb
        have hend := fun ty => run_next_end (P := Tryd.prog) w2 ⟨#[13, 10]⟩ 2 ty (by decide)
        have hn0 := fun ty => next_at w2 0 ty (by decide)
        have hn1 := fun ty => next_at w2 1 ty (by decide)
        have hr13 : ((r : Int) == 13) = false := by simp; omega
        have hr10 : ((r : Int) == 10) = false := by simp; omega
        by_cases he : r = 65533
        · have he' : ((r : Int) != 65533) = false := by simp; omega
          clear f6
          go_wp2_with fail
          go_loopw [15] (fun _ wr => ∃ pos : Nat, pos ≤ 2 ∧ wr = w2.iter ⟨#[13, 10]⟩ pos) (fun _ wr => 2 - wr.iterPos w2.heap.size)
          case atStart => exact ⟨0, by omega, rfl⟩
          case round =>
            obtain ⟨pos, hpos, rfl⟩ := hrel
            match pos, hpos with
            | 0, _ =>
              go_wp2
              go_roundw
              case rel => exact ⟨1, by omega, rfl⟩
              case measure => simp
            | 1, _ =>
              go_wp2
              go_roundw
              case rel => exact ⟨2, by omega, rfl⟩
              case measure => simp
            | 2, _ =>
              go_wp2
              go_roundw
              case rel => exact ⟨k + d, hkd, by go_num, HN', below_iter hB2 hB2.size _ _⟩
              case measure => simp [intOf]; omega
        · obtain ⟨f7, f8⟩ := f6 he
          have he' : ((r : Int) != 65533) = true := by simp; omega
          by_cases hd2 : d = 2
          · have hd' : ((2 : Int) == (d : Int)) = true := by simp; omega
            have hne : (([13, 10] : List UInt8) == (Utf8.encode (r : Int)).toList) = false := enc_ne f7 hd2
            clear f6
            go_wp2_with fail
            go_roundw
            case rel => exact ⟨k + d, hkd, by rw [hd2]; go_num, HN', hB2⟩
            case measure => simp [intOf]; omega
          · have hd' : ((2 : Int) == (d : Int)) = false := by simp; omega
            by_cases hmd : (d : Int) ≤ m
            · have his := run_is (Utf8.encode (r : Int)) (by omega) m (by omega) w2 hm2
              clear f6
              go_wp2_with fail
              go_roundw
              case rel => exact ⟨k + d, hkd, by go_num, HN', hB2⟩
              case measure => simp [intOf]; omega
            · have hmd' : decide ((d : Int) ≤ m) = false := decide_eq_false hmd
              have hmd2 : m < (d : Int) := by omega
              clear hmd f6 f7 f8 f2 f1
              go_upto_region 47 with fail
              clear hmd' hmd2 hm2 hm
              go_wp2_with fail
              go_loopw [15] (fun _ wr => ∃ pos : Nat, pos ≤ 2 ∧ wr = w2.iter ⟨#[13, 10]⟩ pos) (fun _ wr => 2 - wr.iterPos w2.heap.size)
              case atStart => exact ⟨0, by omega, rfl⟩
              case round =>
                obtain ⟨pos, hpos, rfl⟩ := hrel
                match pos, hpos with
                | 0, _ =>
                  go_wp2
                  go_roundw
                  case rel => exact ⟨1, by omega, rfl⟩
                  case measure => simp
                | 1, _ =>
                  go_wp2
                  go_roundw
                  case rel => exact ⟨2, by omega, rfl⟩
                  case measure => simp
                | 2, _ =>
                  go_wp2
                  go_roundw
                  case rel => exact ⟨k + d, hkd, by go_num, HN', below_iter hB2 hB2.size _ _⟩
                  case measure => simp [intOf]; omega
    · obtain rfl : k = l.length := by omega
      have HI : Hid (Lib.indexAny l [13, 10] = -1) := Lib.indexAny_none HN.out
      go_wp2
      go_ret
      exact ⟨show Ending.returned (.int .i64 (-1)) = _ by rw [HI.out], hB⟩
end Go.Proofs.Qxb6604990aDoor
