import Derived.Test.Qxb6604015aDoorRa
import Derived.Test.Qxb6604015aDoorLaws3
import Derived.Lib.SliceRun
namespace Go.Proofs.Qxb6604015aDoor
open Go.RowKit

theorem Tryd.rinfo9 : (Tryd.prog.info? 9).map (fun i => (i.zero, i.size, i.bytes)) = some (some (.string ⟨#[]⟩), 1, 16) := by kernel_rfl
theorem Tryd.rinfo4 : (Tryd.prog.info? 4).map (fun i => (i.zero, i.size, i.bytes)) = some (some (.bool false), 1, 1) := by kernel_rfl
theorem Tryd.rinfo5 : (Tryd.prog.info? 5).map (fun i => (i.zero, i.size, i.bytes)) = some (some (.int .u8 0), 1, 1) := by kernel_rfl

def GotS (w : World) (xs : List ByteArray) (e : Ending) (w' : World) : Prop := ∃ v', e = .returned v' ∧ VS w' v' xs ∧ Below w.heap.size w w'
def GotB (w : World) (xs : List Bool) (e : Ending) (w' : World) : Prop := ∃ v', e = .returned v' ∧ VB w' v' xs ∧ Below w.heap.size w w'

def sb (xs : List ByteArray) : List Value := xs.map Value.string
def bb (xs : List Bool) : List Value := xs.map Value.bool
theorem sb_length (xs : List ByteArray) : (sb xs).length = xs.length := by simp [sb]
theorem bb_length (xs : List Bool) : (bb xs).length = xs.length := by simp [bb]

theorem VS.of_own {w : World} {B g n cap : Nat} {xs : List ByteArray} (hn : n = xs.length) (h : w.ownsRow B 9 1 (.slice (some ⟨g, 0, none⟩) n cap) n (sb xs)) : VS w (.slice (some ⟨g, 0, none⟩) n cap) xs := by
  subst hn
  refine ⟨_, _, rfl, fun k hk => ⟨g, 0, rfl, (h.lt g rfl).2, ?_⟩⟩
  rw [Nat.zero_add, h.cellAt k (by omega)]
  simp [sb, hk]
theorem VB.of_own {w : World} {B g n cap : Nat} {xs : List Bool} (hn : n = xs.length) (h : w.ownsRow B 4 1 (.slice (some ⟨g, 0, none⟩) n cap) n (bb xs)) : VB w (.slice (some ⟨g, 0, none⟩) n cap) xs := by
  subst hn
  refine ⟨_, _, rfl, fun k hk => ⟨g, 0, rfl, (h.lt g rfl).2, ?_⟩⟩
  rw [Nat.zero_add, h.cellAt k (by omega)]
  simp [bb, hk]

set_option maxRecDepth 100000 in
set_option maxHeartbeats 800000 in
theorem cloneStrs_any (xs : List ByteArray) (hl : xs.length ≤ 65536) (v : Value) (w : World) (hv : VS w v xs) :
    Calls Tryd.prog 12 #[v] w fun e w' => GotS w xs e w' := by
  obtain ⟨i9, hi9, hb0, hb1, hb2⟩ := info_parts Tryd.rinfo9
  have hnq := fun (W : World) (a : Option Addr) (l c : Nat) => Lib.run_eql_slice_nil (P := Tryd.prog) W 23 9 a l c 0 0 Tryd.underlying23
  obtain ⟨ao, cap, rfl, hc⟩ := hv
  have HV : Hid (∀ k (h : k < xs.length), ∃ b off, ao = some ⟨b, off, none⟩ ∧ b < w.heap.size ∧ w.cell? ⟨b, off + k, none⟩ = some (.string xs[k])) := hc
  clear hc
  cases ao with
  | none =>
    have hx : xs = [] := by
      cases hh : xs with
      | nil => rfl
      | cons x l =>
        obtain ⟨b, off, e, _⟩ := HV.out 0 (by rw [hh]; simp)
        cases e
    subst hx
    clear HV
    go_enter Tryd.func12, Tryd.ntmps12
    go_wp2
    go_ret
    exact ⟨_, rfl, ⟨none, 0, rfl, fun k hk => absurd hk (by simp)⟩, Below.refl _ _⟩
  | some a =>
    go_enter Tryd.func12, Tryd.ntmps12
    go_wp2_with (at_make; refine wpList_make_full _ rfl _ _ 23 rfl w.heap.size 9 i9 (.string ⟨#[]⟩) 1 Tryd.underlying23 hi9 hb0 hb1 _ _ _ _ xs.length rfl rfl rfl rfl (by rw [hb2]; omega) (by unfold maxLen; omega) (Nat.le_refl _) ?_)
    intro w1 hn1 hg1
    have hnx1 : Below w.heap.size w w1 := (Below.refl _ w).grown hg1 (Nat.le_refl _) (fun k hk => by cases hk)
    rw [toList_madeCells_one] at hn1
    clear hg1 hnq
    go_wp2
    go_loopw [4] (fun iv wr => ∃ k : Nat, k ≤ xs.length ∧ iv = .int .i64 k ∧ wr.ownsRow w.heap.size 9 1 (.slice (some ⟨w.heap.size, 0, none⟩) xs.length xs.length) xs.length (part (sb xs) (.string ⟨#[]⟩) k) ∧ Below w.heap.size w wr) (fun iv _ => xs.length - (intOf iv).toNat)
    case atStart => exact ⟨0, Nat.zero_le _, rfl, by rw [part_zero, sb_length]; exact hn1, hnx1⟩
    case round =>
      obtain ⟨k, hk, rfl, hN, hB⟩ := hrel
      by_cases hlt : k < xs.length
      · obtain ⟨b, off, e, hbl, hcell⟩ := HV.out k hlt
        obtain rfl : a = ⟨b, off, none⟩ := by simpa using e
        clear e
        have c1 : wr.cell? ⟨b, off + k, none⟩ = some (.string xs[k]) := by rw [hB.cell (p := ⟨b, off + k, none⟩) hbl]; exact hcell
        have d1 : wr.cell? ⟨w.heap.size, k, none⟩ = some (.string ⟨#[]⟩) := by rw [hN.cellAt _ (by omega), part_at _ _ _ (by rw [sb_length]; exact hlt)]
        have f1 := hN.frozenAt k
        go_wp2
        go_roundw
        case rel =>
          refine ⟨k + 1, by omega, by go_num, ?_, hB.setCell (Nat.le_refl _) _⟩
          have := (hN.stored k (.string xs[k])).1
          rw [part_set _ _ _ _ (by simp [sb, hlt])] at this
          exact this
        case measure => simp [intOf]; omega
      · have e : k = xs.length := by omega
        subst e
        go_wp2
        go_ret
        have hp := part_all (sb xs) (.string ⟨#[]⟩)
        rw [sb_length] at hp
        rw [hp] at hN
        exact ⟨_, rfl, VS.of_own rfl hN, hB⟩

set_option maxRecDepth 100000 in
set_option maxHeartbeats 800000 in
theorem cloneBools_any (xs : List Bool) (hl : xs.length ≤ 65536) (v : Value) (w : World) (hv : VB w v xs) :
    Calls Tryd.prog 13 #[v] w fun e w' => GotB w xs e w' := by
  obtain ⟨i4, hi4, hb0, hb1, hb2⟩ := info_parts Tryd.rinfo4
  have hnq := fun (W : World) (a : Option Addr) (l c : Nat) => Lib.run_eql_slice_nil (P := Tryd.prog) W 27 4 a l c 0 0 Tryd.underlying27
  obtain ⟨ao, cap, rfl, hc⟩ := hv
  have HV : Hid (∀ k (h : k < xs.length), ∃ b off, ao = some ⟨b, off, none⟩ ∧ b < w.heap.size ∧ w.cell? ⟨b, off + k, none⟩ = some (.bool xs[k])) := hc
  clear hc
  cases ao with
  | none =>
    have hx : xs = [] := by
      cases hh : xs with
      | nil => rfl
      | cons x l =>
        obtain ⟨b, off, e, _⟩ := HV.out 0 (by rw [hh]; simp)
        cases e
    subst hx
    clear HV
    go_enter Tryd.func13, Tryd.ntmps13
    go_wp2
    go_ret
    exact ⟨_, rfl, ⟨none, 0, rfl, fun k hk => absurd hk (by simp)⟩, Below.refl _ _⟩
  | some a =>
    go_enter Tryd.func13, Tryd.ntmps13
    go_wp2_with (at_make; refine wpList_make_full _ rfl _ _ 27 rfl w.heap.size 4 i4 (.bool false) 1 Tryd.underlying27 hi4 hb0 hb1 _ _ _ _ xs.length rfl rfl rfl rfl (by rw [hb2]; omega) (by unfold maxLen; omega) (Nat.le_refl _) ?_)
    intro w1 hn1 hg1
    have hnx1 : Below w.heap.size w w1 := (Below.refl _ w).grown hg1 (Nat.le_refl _) (fun k hk => by cases hk)
    rw [toList_madeCells_one] at hn1
    clear hg1 hnq
    go_wp2
    go_loopw [4] (fun iv wr => ∃ k : Nat, k ≤ xs.length ∧ iv = .int .i64 k ∧ wr.ownsRow w.heap.size 4 1 (.slice (some ⟨w.heap.size, 0, none⟩) xs.length xs.length) xs.length (part (bb xs) (.bool false) k) ∧ Below w.heap.size w wr) (fun iv _ => xs.length - (intOf iv).toNat)
    case atStart => exact ⟨0, Nat.zero_le _, rfl, by rw [part_zero, bb_length]; exact hn1, hnx1⟩
    case round =>
      obtain ⟨k, hk, rfl, hN, hB⟩ := hrel
      by_cases hlt : k < xs.length
      · obtain ⟨b, off, e, hbl, hcell⟩ := HV.out k hlt
        obtain rfl : a = ⟨b, off, none⟩ := by simpa using e
        clear e
        have c1 : wr.cell? ⟨b, off + k, none⟩ = some (.bool xs[k]) := by rw [hB.cell (p := ⟨b, off + k, none⟩) hbl]; exact hcell
        have d1 : wr.cell? ⟨w.heap.size, k, none⟩ = some (.bool false) := by rw [hN.cellAt _ (by omega), part_at _ _ _ (by rw [bb_length]; exact hlt)]
        have f1 := hN.frozenAt k
        go_wp2
        go_roundw
        case rel =>
          refine ⟨k + 1, by omega, by go_num, ?_, hB.setCell (Nat.le_refl _) _⟩
          have := (hN.stored k (.bool xs[k])).1
          rw [part_set _ _ _ _ (by simp [bb, hlt])] at this
          exact this
        case measure => simp [intOf]; omega
      · have e : k = xs.length := by omega
        subst e
        go_wp2
        go_ret
        have hp := part_all (bb xs) (.bool false)
        rw [bb_length] at hp
        rw [hp] at hN
        exact ⟨_, rfl, VB.of_own rfl hN, hB⟩

/-- What escaping hands back. -/
def GotE (w : World) (t : Bs) (e : Ending) (w' : World) : Prop := ∃ v', e = .returned v' ∧ w'.ownsRow w.heap.size 5 1 v' (esc t).length (bv (esc t)) ∧ (t = [] → v' = .slice none 0 0) ∧ Below w.heap.size w w'

theorem size_zero {s : ByteArray} (h : s.data.toList = []) : s.size = 0 := by
  have := congrArg List.length h
  rw [Array.length_toList] at this
  exact this

theorem esc_take (s : ByteArray) (k : Nat) (h : k < s.size) : esc (s.data.toList.take (k + 1)) = esc (s.data.toList.take k) ++ (if s[k] = 34 ∨ s[k] = 92 then [92, s[k]] else [s[k]]) := by
  rw [List.take_add_one, cell_idx s k h, esc_append]
  congr 1

set_option maxRecDepth 100000 in
set_option maxHeartbeats 800000 in
theorem escape_any (s : ByteArray) (hs : s.size ≤ 1048576) (w : World) :
    Calls Tryd.prog 19 #[.string s, .bool false] w fun e w' => GotE w s.data.toList e w' := by
  obtain ⟨i5, hi, hz0, hz1, hz2⟩ := info_parts Tryd.rinfo5
  go_enter Tryd.func19, Tryd.ntmps19
  go_wp2_with fail
  go_loopw [5, 6] (fun v iv wr => ∃ (k : Nat) (l : Bs), k ≤ s.size ∧ iv = .int .i64 k ∧ l.length ≤ 2 * k ∧ Hid (l = esc (s.data.toList.take k)) ∧ wr.ownsRow w.heap.size 5 1 v l.length (bv l) ∧ Hid (k = 0 → v = .slice none 0 0) ∧ Below w.heap.size w wr) (fun _ iv _ => s.size - (intOf iv).toNat)
  case atStart => exact ⟨0, [], Nat.zero_le _, rfl, by simp, by show _ = _; simp [esc], World.ownsRow_nil _ _ _ _, fun _ => rfl, Below.refl _ _⟩
  case round =>
    obtain ⟨k, l, hk, rfl, hll, HL, hown, HN, hB⟩ := hrel
    have hsz := hB.size
    by_cases hlt : k < s.size
    · have HT := esc_take s k hlt
      by_cases hc : s[k] = 34 ∨ s[k] = 92
      · have HL' : Hid (l ++ [92, s[k]] = esc (s.data.toList.take (k + 1))) := by show _ = _; rw [HT, if_pos hc, HL.out]
        have hcs : ((s[k].toNat : Int) == 34) = true ∨ (((s[k].toNat : Int) == 34) = false ∧ ((s[k].toNat : Int) == 92) = true) := by
          rcases hc with h | h
          · exact .inl (by rw [h]; rfl)
          · exact .inr ⟨by rw [h]; rfl, by rw [h]; rfl⟩
        clear HT hc HL
        rcases hcs with h34 | ⟨h34, h92⟩
        all_goals
          go_wp2_with (at_builtin; refine wpList_append_one _ rfl _ _ 32 rfl w.heap.size 5 i5 (.int .u8 0) 1 Tryd.underlying32 hi hz0 hz1 hz2 rfl _ _ _ rfl (hown.alloc _) w (hB.alloc hB.size _) ⟨_, 0, none⟩ (.int .u8 92) rfl (World.cell?_alloc_mark _ _ _ _ 0) rfl (by omega) (by omega) (by simp; omega) ?_)
          intro v1 w1 hown1 hg1 hn1 hl1 hb1
          clear hg1 hn1 hl1
          go_wp2_with (at_builtin; refine wpList_append_one _ rfl _ _ 32 rfl w.heap.size 5 i5 (.int .u8 0) 1 Tryd.underlying32 hi hz0 hz1 hz2 rfl _ _ _ rfl (hown1.alloc _) w (hb1.alloc hb1.size _) ⟨_, 0, none⟩ (.int .u8 (s[k].toNat : Int)) rfl (World.cell?_alloc_mark _ _ _ _ 0) rfl (by omega) (by omega) (by have := hb1.size; simp; omega) ?_)
          intro v2 w2 hown2 hg2 hn2 hl2 hb2
          clear hg2 hn2 hl2 hown hown1 hb1 hB
          go_wp2
          go_roundw
          case rel => exact ⟨k + 1, l ++ [92, s[k]], by omega, by go_num, by simp; omega, HL', by simpa [bv] using hown2, by intro h; omega, hb2⟩
          case measure => simp [intOf]; omega
      · have HL' : Hid (l ++ [s[k]] = esc (s.data.toList.take (k + 1))) := by show _ = _; rw [HT, if_neg hc, HL.out]
        have h34 : ((s[k].toNat : Int) == 34) = false := by
          have : s[k] ≠ 34 := fun h => hc (.inl h)
          rw [show (34 : Int) = ((34 : UInt8).toNat : Int) from rfl, byte_is]
          simpa using this
        have h92 : ((s[k].toNat : Int) == 92) = false := by
          have : s[k] ≠ 92 := fun h => hc (.inr h)
          rw [show (92 : Int) = ((92 : UInt8).toNat : Int) from rfl, byte_is]
          simpa using this
        clear HT hc HL
        go_wp2_with (at_builtin; refine wpList_append_one _ rfl _ _ 32 rfl w.heap.size 5 i5 (.int .u8 0) 1 Tryd.underlying32 hi hz0 hz1 hz2 rfl _ _ _ rfl (hown.alloc _) w (hB.alloc hB.size _) ⟨_, 0, none⟩ (.int .u8 (s[k].toNat : Int)) rfl (World.cell?_alloc_mark _ _ _ _ 0) rfl (by omega) (by omega) (by simp; omega) ?_)
        intro v1 w1 hown1 hg1 hn1 hl1 hb1
        clear hg1 hn1 hl1 hown hB
        go_wp2
        go_roundw
        case rel => exact ⟨k + 1, l ++ [s[k]], by omega, by go_num, by simp; omega, HL', by simpa [bv] using hown1, by intro h; omega, hb1⟩
        case measure => simp [intOf]; omega
    · have e : k = s.size := by omega
      subst e
      have HL' : Hid (l = esc s.data.toList) := by show _ = _; rw [HL.out, List.take_of_length_le (by simp)]
      go_wp2
      go_ret
      refine ⟨_, rfl, ?_, fun h => HN.out (by rw [size_zero h]), hB⟩
      rw [← HL'.out]
      exact hown

end Go.Proofs.Qxb6604015aDoor
