import Derived.Test.Qxb6604990aDoorShort
import Derived.Test.Qxb6604990aDoorLaws3
import Derived.Deep.QuietTactic
import Derived.BigQuiet
import Derived.RegionTactic
namespace Go.Proofs.Qxb6604990aDoor
open Go.RowKit

/-- A slice of strings, read: its cells lie among the old ones. -/
def VS (w : World) (v : Value) (xs : List ByteArray) : Prop :=
  ∃ ao cap, v = .slice ao xs.length cap ∧ ∀ k (h : k < xs.length), ∃ b off, ao = some ⟨b, off, none⟩ ∧ b < w.heap.size ∧ w.cell? ⟨b, off + k, none⟩ = some (.string xs[k])
/-- A slice of bytes. -/
def VU (w : World) (v : Value) (us : List UInt8) : Prop :=
  ∃ ao cap, v = .slice ao us.length cap ∧ ∀ k (h : k < us.length), ∃ b off, ao = some ⟨b, off, none⟩ ∧ b < w.heap.size ∧ w.cell? ⟨b, off + k, none⟩ = some (.int .u8 (us[k].toNat : Int))

theorem VS.below {w w' : World} {v : Value} {xs : List ByteArray} (h : VS w v xs) (hb : Below w.heap.size w w') : VS w' v xs := by
  obtain ⟨ao, cap, rfl, hc⟩ := h
  refine ⟨ao, cap, rfl, fun k hk => ?_⟩
  obtain ⟨b, off, e, hlt, hcell⟩ := hc k hk
  exact ⟨b, off, e, Nat.lt_of_lt_of_le hlt hb.size, by rw [hb.cell (p := ⟨b, off + k, none⟩) hlt]; exact hcell⟩
theorem VU.below {w w' : World} {v : Value} {xs : List UInt8} (h : VU w v xs) (hb : Below w.heap.size w w') : VU w' v xs := by
  obtain ⟨ao, cap, rfl, hc⟩ := h
  refine ⟨ao, cap, rfl, fun k hk => ?_⟩
  obtain ⟨b, off, e, hlt, hcell⟩ := hc k hk
  exact ⟨b, off, e, Nat.lt_of_lt_of_le hlt hb.size, by rw [hb.cell (p := ⟨b, off + k, none⟩) hlt]; exact hcell⟩

/-- It answers a bool; where it answers yes, every string is small. -/
def SomeBool (xs : List ByteArray) (e : Ending) : Prop := ∃ b, e = .returned (.bool b) ∧ (b = true → ∀ k (h : k < xs.length), xs[k].size ≤ 1048576)
theorem someBool_no (xs : List ByteArray) : SomeBool xs (.returned (.bool false)) := ⟨false, rfl, fun h => by cases h⟩

set_option maxRecDepth 100000 in
set_option maxHeartbeats 1600000 in
theorem zzBytes_any (xs : List ByteArray) (us : List UInt8) (p : ByteArray) (v1 v2 : Value) (w : World) (h1 : VS w v1 xs) (h2 : VU w v2 us) :
    Calls Tryd.prog 4 #[v1, v2, .string p] w fun e w' => SomeBool xs e ∧ w' = w := by
  obtain ⟨ao, cap, rfl, hc⟩ := h1
  have HX : Hid (∀ k (h : k < xs.length), ∃ b off, ao = some ⟨b, off, none⟩ ∧ b < w.heap.size ∧ w.cell? ⟨b, off + k, none⟩ = some (.string xs[k])) := hc
  obtain ⟨ao2, cap2, rfl, _⟩ := h2
  clear hc
  by_cases hlx : xs.length ≤ 1048576
  · go_enter Tryd.func4, Tryd.ntmps4
    go_wp2
    go_loop [7, 8] (fun nv iv => ∃ k n : Nat, k ≤ xs.length ∧ iv = .int .i64 k ∧ nv = .int .i64 n ∧ n ≤ 1048576 ∧ Hid (∀ j (h : j < xs.length), j < k → xs[j].size ≤ 1048576)) (fun _ iv => xs.length - (intOf iv).toNat)
    case atStart => exact ⟨0, xs.length, Nat.zero_le _, rfl, rfl, hlx, fun j h hj => absurd hj (by omega)⟩
    case round =>
      obtain ⟨k, n, hk, rfl, rfl, hn, HK⟩ := hrel
      by_cases hlt : k < xs.length
      · obtain ⟨b, off, rfl, hbl, hcell⟩ := HX.out k hlt
        go_wp2
        all_goals first
          | (go_ret
             exact ⟨someBool_no xs, rfl⟩)
          | (go_round
             case rel => exact ⟨k + 1, n + xs[k].size, by omega, by go_num, by go_num, by omega, fun j h hj => by
               by_cases e : j = k
               · subst e; omega
               · exact HK.out j h (by omega)⟩
             case measure => simp [intOf]; omega)
      · have HK' : Hid (∀ j (h : j < xs.length), xs[j].size ≤ 1048576) := fun j h => HK.out j h (by omega)
        go_wp2
        all_goals
          go_ret
          exact ⟨⟨_, rfl, fun _ => HK'.out⟩, rfl⟩
  · go_enter Tryd.func4, Tryd.ntmps4
    go_wp2
    go_ret
    exact ⟨someBool_no xs, rfl⟩

def EndSays (s : ByteArray) (w : World) (e : Ending) (w' : World) : Prop := e = .returned (.bool (s.data.toList.any isEnd)) ∧ w' = w

theorem any_take (s : ByteArray) (k : Nat) (h : k < s.size) : (s.data.toList.take (k + 1)).any isEnd = ((s.data.toList.take k).any isEnd || isEnd s[k]) := by
  rw [List.take_add_one, cell_idx s k h, List.any_append]
  simp

theorem any_hit {s : ByteArray} {k : Nat} (h : k < s.size) (he : isEnd s[k] = true) : s.data.toList.any isEnd = true := by
  rw [List.any_eq_true]
  exact ⟨s[k], List.mem_of_getElem? (cell_idx s k h), he⟩

theorem end_cases (b : UInt8) : (isEnd b = true ∧ ((b.toNat : Int) == 10) = true) ∨ (isEnd b = true ∧ ((b.toNat : Int) == 10) = false ∧ ((b.toNat : Int) == 13) = true) ∨ (isEnd b = false ∧ ((b.toNat : Int) == 10) = false ∧ ((b.toNat : Int) == 13) = false) := by
  rw [show (10 : Int) = ((10 : UInt8).toNat : Int) from rfl, show (13 : Int) = ((13 : UInt8).toNat : Int) from rfl, byte_is, byte_is]
  unfold isEnd
  cases h1 : (b == 10) <;> cases h2 : (b == 13) <;> simp

set_option maxRecDepth 100000 in
set_option maxHeartbeats 800000 in
theorem hasEnd_any (s : ByteArray) (hs : s.size ≤ 1048576) (w : World) : Calls Tryd.prog 5 #[.string s] w fun e w' => EndSays s w e w' := by
  go_enter Tryd.func5, Tryd.ntmps5
  go_wp2
  go_loop [3] (fun iv => ∃ k : Nat, k ≤ s.size ∧ iv = .int .i64 k ∧ Hid ((s.data.toList.take k).any isEnd = false)) (fun iv => s.size - (intOf iv).toNat)
  case atStart => exact ⟨0, Nat.zero_le _, rfl, by simp [Hid]⟩
  case round =>
    obtain ⟨k, hk, rfl, HA⟩ := hrel
    by_cases hlt : k < s.size
    · have hT := any_take s k hlt
      rw [HA.out] at hT
      have HT : Hid ((s.data.toList.take (k + 1)).any isEnd = (false || isEnd s[k])) := hT
      clear hT
      rcases end_cases s[k] with ⟨he, h10⟩ | ⟨he, h10, h13⟩ | ⟨he, h10, h13⟩
      · have HI : Hid (s.data.toList.any isEnd = true) := any_hit hlt he
        clear he HT
        go_wp2
        all_goals go_ret
        all_goals exact ⟨show Ending.returned (.bool true) = _ by rw [HI.out], rfl⟩
      · have HI : Hid (s.data.toList.any isEnd = true) := any_hit hlt he
        clear he HT
        go_wp2
        all_goals go_ret
        all_goals exact ⟨show Ending.returned (.bool true) = _ by rw [HI.out], rfl⟩
      · have HI : Hid ((s.data.toList.take (k + 1)).any isEnd = false) := by rw [HT.out, he]; rfl
        clear he HT
        go_wp2
        go_round
        case rel => exact ⟨k + 1, by omega, by go_num, HI⟩
        case measure => simp [intOf]; omega
    · obtain rfl : k = s.size := by omega
      have HI : Hid (s.data.toList.any isEnd = false) := by
        have := HA.out
        rwa [List.take_of_length_le (by simp)] at this
      go_wp2
      go_ret
      exact ⟨show Ending.returned (.bool false) = _ by rw [HI.out], rfl⟩

/-- The kind of the i-th line's end. -/
def kd (us : List UInt8) (i : Nat) : Nat := match us[i]? with
  | none => 0
  | some u => if u = 0 then 0 else if u = 1 then 1 else 2
def KdSays (us : List UInt8) (i : Nat) (w : World) (e : Ending) (w' : World) : Prop := e = .returned (.int .i64 (kd us i : Nat)) ∧ w' = w

set_option maxRecDepth 100000 in
set_option maxHeartbeats 800000 in
theorem endKind_any (us : List UInt8) (i : Nat) (v : Value) (w : World) (hv : VU w v us) : Calls Tryd.prog 6 #[v, .int .i64 i] w fun e w' => KdSays us i w e w' := by
  obtain ⟨ao, cap, rfl, hc⟩ := hv
  by_cases hlt : i < us.length
  · obtain ⟨b, off, rfl, hbl, hcell⟩ := hc i hlt
    have hu : us[i]? = some us[i] := List.getElem?_eq_getElem hlt
    clear hc
    by_cases h0 : us[i] = 0
    · have HK : Hid (kd us i = 0) := by show _ = _; rw [kd, hu]; simp [h0]
      have h0' : ((us[i].toNat : Int) == 0) = true := by rw [h0]; rfl
      clear hu
      go_enter Tryd.func6, Tryd.ntmps6
      go_wp2
      all_goals go_ret
      all_goals exact ⟨show Ending.returned (.int .i64 0) = _ by rw [HK.out]; rfl, rfl⟩
    · have h0' : ((us[i].toNat : Int) == 0) = false := by
        rw [show (0 : Int) = ((0 : UInt8).toNat : Int) from rfl, byte_is]; simpa using h0
      by_cases h1 : us[i] = 1
      · have HK : Hid (kd us i = 1) := by show _ = _; rw [kd, hu]; simp [h1]
        have h1' : ((us[i].toNat : Int) == 1) = true := by rw [h1]; rfl
        clear hu
        go_enter Tryd.func6, Tryd.ntmps6
        go_wp2
        all_goals go_ret
        all_goals exact ⟨show Ending.returned (.int .i64 1) = _ by rw [HK.out]; rfl, rfl⟩
      · have HK : Hid (kd us i = 2) := by show _ = _; rw [kd, hu]; simp [h0, h1]
        have h1' : ((us[i].toNat : Int) == 1) = false := by
          rw [show (1 : Int) = ((1 : UInt8).toNat : Int) from rfl, byte_is]; simpa using h1
        clear hu
        go_enter Tryd.func6, Tryd.ntmps6
        go_wp2
        all_goals go_ret
        all_goals exact ⟨show Ending.returned (.int .i64 2) = _ by rw [HK.out]; rfl, rfl⟩
  · have HK : Hid (kd us i = 0) := by show _ = _; rw [kd, List.getElem?_eq_none (by omega)]
    clear hc
    go_enter Tryd.func6, Tryd.ntmps6
    go_wp2
    all_goals go_ret
    all_goals exact ⟨show Ending.returned (.int .i64 0) = _ by rw [HK.out]; rfl, rfl⟩

/-! ### the scanner -/
structure Env (w : World) : Prop where
  tabs : Lib.Utf8Tabs 1 2 w
  max : ∃ m, w.cell? ⟨0, 0, none⟩ = some (.int .i64 m)
  pos : 0 < w.heap.size
theorem Env.below {w w' : World} (h : Env w) (hb : Below w.heap.size w w') : Env w' := by
  obtain ⟨m, hm⟩ := h.max
  exact ⟨tabs_below h.tabs hb, ⟨m, (hb.cell (p := ⟨0, 0, none⟩) h.pos).trans hm⟩, Nat.lt_of_lt_of_le h.pos hb.size⟩

theorem any_all (b off cap : Nat) (l : List UInt8) (w : World) (hE : Env w) (hl : l.length ≤ 1073741824) (hcap : l.length ≤ cap) (hb : b < w.heap.size) (hp : Bts w b off l) :
    Calls Tryd.prog 9 #[.slice (some ⟨b, off, none⟩) l.length cap, .string ⟨#[13, 10]⟩] w fun e w' => Fnd w l e w' := by
  obtain ⟨m, hm⟩ := hE.max
  by_cases h8 : 8 < l.length
  · exact any_long Tryd.tf b off cap l w h8 hl hb hp
  · by_cases h1 : l.length = 1
    · match l, h1 with
      | [c], _ => exact any_one b off cap c w (by simpa using hp 0 (by simp))
    · exact any_short b off cap l m w (by omega) h1 hcap hb hp hE.tabs hm hE.pos

/-- How far the scanner goes on behind a line of i bytes. -/
def adv (l : List UInt8) (i : Nat) : Nat := if l[i]? = some 10 then i + 1 else if l[i + 1]? = some 10 then i + 2 else i + 1

def Scn (b off cap : Nat) (l : List UInt8) (w : World) (e : Ending) (w' : World) : Prop :=
  ((Lib.indexAny l [13, 10] = -1 ∧ e = .returned (.tuple #[.int .i64 0, .slice none 0 0, .nilIface])) ∨
    (∃ i : Nat, Lib.indexAny l [13, 10] = i ∧ i < l.length ∧ e = .returned (.tuple #[.int .i64 (adv l i : Nat), .slice (some ⟨b, off, none⟩) i cap, .nilIface]))) ∧ Below w.heap.size w w'

theorem indexAny_lt : ∀ {l : List UInt8} {i : Nat}, Lib.indexAny l [13, 10] = i → i < l.length
  | [], i, h => by simp [Lib.indexAny] at h
  | b :: l, i, h => by
    rw [Lib.indexAny] at h
    split at h
    · have : i = 0 := by omega
      simp [this]
    · split at h
      · omega
      · rename_i hn
        have hn' : Lib.indexAny l [13, 10] ≠ -1 := by simpa using hn
        have := Lib.indexAny_ge [13, 10] l
        have := indexAny_lt (l := l) (i := i - 1) (by omega)
        simp; omega

set_option maxRecDepth 100000 in
set_option maxHeartbeats 1600000 in
theorem scan_any (b off cap : Nat) (l : List UInt8) (w : World) (hE : Env w) (hl : l.length ≤ 1073741824) (hcap : l.length ≤ cap) (hb : b < w.heap.size) (hp : Bts w b off l) :
    Calls Tryd.prog 8 #[.slice (some ⟨b, off, none⟩) l.length cap, .bool true] w fun e w' => Scn b off cap l w e w' := by
  have CALL := any_all b off cap l w hE hl hcap hb hp
  have HP : Hid (Bts w b off l) := hp
  clear hp
  go_enter Tryd.func8, Tryd.ntmps8
  go_wp2_with fail
  refine CALL.mono ?_
  rintro e w1 ⟨rfl, hB⟩
  clear CALL
  by_cases hi : Lib.indexAny l [13, 10] = -1
  · rw [hi]
    go_wp2
    go_ret3
    exact ⟨.inl ⟨hi, rfl⟩, hB⟩
  · obtain ⟨i, hii⟩ : ∃ i : Nat, Lib.indexAny l [13, 10] = i := ⟨(Lib.indexAny l [13, 10]).toNat, by have := Lib.indexAny_ge [13, 10] l; omega⟩
    have hil := indexAny_lt hii
    rw [hii]
    have HI : Hid (Lib.indexAny l [13, 10] = i) := hii
    clear hi hii
    have hic : (i : Int) ≤ (cap : Int) := by omega
    have hiz : (0 : Int) ≤ (i : Int) := by omega
    have c0 : w1.cell? ⟨b, off + i, none⟩ = some (.int .u8 (l[i].toNat : Int)) := (hB.cell (p := ⟨b, off + i, none⟩) hb).trans (HP.out i hil)
    by_cases h10 : l[i] = 10
    · have h10' : ((l[i].toNat : Int) == 10) = true := by rw [h10]; rfl
      have HA : Hid (adv l i = i + 1) := by show _ = _; rw [adv, List.getElem?_eq_getElem hil, h10]; simp
      have hw1 : IntKind.i64.wrap ((i : Int) + 1) = ((i + 1 : Nat) : Int) := by rw [IntKind.wrap_i64]; omega
      go_wp2_with fail
      go_quiet (fail)
      go_wp2
      go_ret3
      exact ⟨.inr ⟨i, HI.out, hil, by rw [HA.out]; rfl⟩, below_draws hB _⟩
    · have h10' : ((l[i].toNat : Int) == 10) = false := by
        rw [show (10 : Int) = ((10 : UInt8).toNat : Int) from rfl, byte_is]; simpa using h10
      by_cases h2 : i + 1 < l.length
      · have c1 : w1.cell? ⟨b, off + (i + 1), none⟩ = some (.int .u8 (l[i + 1].toNat : Int)) := (hB.cell (p := ⟨b, off + (i + 1), none⟩) hb).trans (HP.out (i + 1) h2)
        by_cases h11 : l[i + 1] = 10
        · have h11' : ((l[i + 1].toNat : Int) == 10) = true := by rw [h11]; rfl
          have HA : Hid (adv l i = i + 2) := by show _ = _; rw [adv, List.getElem?_eq_getElem hil, List.getElem?_eq_getElem h2, h11]; simp [h10]
          have hw1 : IntKind.i64.wrap ((i : Int) + 2) = ((i + 2 : Nat) : Int) := by rw [IntKind.wrap_i64]; omega
          go_wp2_with fail
          go_quiet (fail)
          go_wp2
          go_ret3
          exact ⟨.inr ⟨i, HI.out, hil, by rw [HA.out]; rfl⟩, below_draws hB _⟩
        · have h11' : ((l[i + 1].toNat : Int) == 10) = false := by
            rw [show (10 : Int) = ((10 : UInt8).toNat : Int) from rfl, byte_is]; simpa using h11
          have HA : Hid (adv l i = i + 1) := by show _ = _; rw [adv, List.getElem?_eq_getElem hil, List.getElem?_eq_getElem h2]; simp [h10, h11]
          have hw1 : IntKind.i64.wrap ((i : Int) + 1) = ((i + 1 : Nat) : Int) := by rw [IntKind.wrap_i64]; omega
          go_wp2_with fail
          go_quiet (fail)
          go_wp2
          go_ret3
          exact ⟨.inr ⟨i, HI.out, hil, by rw [HA.out]; rfl⟩, below_draws hB _⟩
      · have HA : Hid (adv l i = i + 1) := by show _ = _; rw [adv, List.getElem?_eq_getElem hil, List.getElem?_eq_none (by omega)]; simp [h10]
        have hw1 : IntKind.i64.wrap ((i : Int) + 1) = ((i + 1 : Nat) : Int) := by rw [IntKind.wrap_i64]; omega
        go_wp2_with fail
        go_quiet (fail)
        go_wp2
        go_ret3
        exact ⟨.inr ⟨i, HI.out, hil, by rw [HA.out]; rfl⟩, below_draws hB _⟩

set_option maxRecDepth 100000 in
theorem zzscan_any (b off cap : Nat) (l : List UInt8) (w : World) (hE : Env w) (hl : l.length ≤ 1073741824) (hcap : l.length ≤ cap) (hb : b < w.heap.size) (hp : Bts w b off l) :
    Calls Tryd.prog 7 #[.slice (some ⟨b, off, none⟩) l.length cap, .bool true] w fun e w' => Scn b off cap l w e w' := by
  have CALL := scan_any b off cap l w hE hl hcap hb hp
  clear hp
  go_enter Tryd.func7, Tryd.ntmps7
  go_wp2_with fail
  refine CALL.mono ?_
  rintro e w1 ⟨(⟨hi, rfl⟩ | ⟨i, hi, hil, rfl⟩), hB⟩
  · have HI : Hid (Lib.indexAny l [13, 10] = -1) := hi
    clear hi
    go_wp2
    go_ret3
    exact ⟨.inl ⟨HI.out, rfl⟩, hB⟩
  · have HI : Hid (Lib.indexAny l [13, 10] = i) := hi
    clear hi
    obtain ⟨q, hq⟩ : ∃ q, q = adv l i := ⟨_, rfl⟩
    rw [← hq]
    have HQ : Hid (q = adv l i) := hq
    clear hq
    go_wp2
    go_ret3
    exact ⟨.inr ⟨i, HI.out, hil, by rw [← HQ.out]; rfl⟩, hB⟩
end Go.Proofs.Qxb6604990aDoor
