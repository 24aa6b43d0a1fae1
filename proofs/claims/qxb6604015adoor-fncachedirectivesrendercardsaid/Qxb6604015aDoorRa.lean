import Derived.Test.Qxb6604015aDoorRows
import Derived.Test.Qxb6604015aDoorPlainR
import Derived.Test.Qxb6604015aDoorLaws2
namespace Go.Proofs.Qxb6604015aDoor
open Go.RowKit

/-- A slice of strings, read: whatever its address; its cells lie among the old ones. -/
def VS (w : World) (v : Value) (xs : List ByteArray) : Prop :=
  ∃ ao cap, v = .slice ao xs.length cap ∧ ∀ k (h : k < xs.length), ∃ b off, ao = some ⟨b, off, none⟩ ∧ b < w.heap.size ∧ w.cell? ⟨b, off + k, none⟩ = some (.string xs[k])
/-- A slice of bools. -/
def VB (w : World) (v : Value) (bs : List Bool) : Prop :=
  ∃ ao cap, v = .slice ao bs.length cap ∧ ∀ k (h : k < bs.length), ∃ b off, ao = some ⟨b, off, none⟩ ∧ b < w.heap.size ∧ w.cell? ⟨b, off + k, none⟩ = some (.bool bs[k])

theorem VS.below {w w' : World} {v : Value} {xs : List ByteArray} (h : VS w v xs) (hb : Below w.heap.size w w') : VS w' v xs := by
  obtain ⟨ao, cap, rfl, hc⟩ := h
  refine ⟨ao, cap, rfl, fun k hk => ?_⟩
  obtain ⟨b, off, e, hlt, hcell⟩ := hc k hk
  exact ⟨b, off, e, Nat.lt_of_lt_of_le hlt hb.size, by rw [hb.cell (p := ⟨b, off + k, none⟩) hlt]; exact hcell⟩
theorem VB.below {w w' : World} {v : Value} {xs : List Bool} (h : VB w v xs) (hb : Below w.heap.size w w') : VB w' v xs := by
  obtain ⟨ao, cap, rfl, hc⟩ := h
  refine ⟨ao, cap, rfl, fun k hk => ?_⟩
  obtain ⟨b, off, e, hlt, hcell⟩ := hc k hk
  exact ⟨b, off, e, Nat.lt_of_lt_of_le hlt hb.size, by rw [hb.cell (p := ⟨b, off + k, none⟩) hlt]; exact hcell⟩

def tot (xs : List ByteArray) : Nat := (xs.map (·.size)).sum
theorem tot_append (a b : List ByteArray) : tot (a ++ b) = tot a + tot b := by simp [tot]
theorem tot_take (xs : List ByteArray) (k : Nat) (h : k < xs.length) : tot (xs.take (k + 1)) = tot (xs.take k) + xs[k].size := by
  rw [List.take_add_one, List.getElem?_eq_getElem h, tot_append]
  simp [tot]

/-- It answers a bool. -/
def SomeBool (e : Ending) : Prop := ∃ b, e = .returned (.bool b)

/-- What strsBytes says where it says no more than 2^20. -/
def Counted (xs : List ByteArray) (z : Int) : Prop := 0 ≤ z ∧ z ≤ 2097152 ∧ (z ≤ 1048576 → xs.length ≤ 65536 ∧ z = (16 * xs.length + tot xs : Nat))
theorem counted_big (xs : List ByteArray) : Counted xs 2097152 := ⟨by omega, by omega, fun h => by omega⟩

set_option maxRecDepth 100000 in
set_option maxHeartbeats 800000 in
theorem strsBytes_any (xs : List ByteArray) (v : Value) (w : World) (hv : VS w v xs) :
    Calls Tryd.prog 10 #[v] w fun e w' => ∃ z : Int, e = .returned (.int .i64 z) ∧ w' = w ∧ Counted xs z := by
  obtain ⟨ao, cap, rfl, hc⟩ := hv
  have HV : Hid (∀ k (h : k < xs.length), ∃ b off, ao = some ⟨b, off, none⟩ ∧ b < w.heap.size ∧ w.cell? ⟨b, off + k, none⟩ = some (.string xs[k])) := hc
  clear hc
  by_cases hl : xs.length ≤ 65536
  · go_enter Tryd.func10, Tryd.ntmps10
    go_wp2
    go_loop [3, 4] (fun nv iv => ∃ k n : Nat, k ≤ xs.length ∧ iv = .int .i64 k ∧ nv = .int .i64 n ∧ n ≤ 1048576 ∧ Hid (n = 16 * xs.length + tot (xs.take k))) (fun _ iv => xs.length - (intOf iv).toNat)
    case atStart => exact ⟨0, 16 * xs.length, Nat.zero_le _, rfl, by go_num, by omega, by show _ = _; simp [tot]⟩
    case round =>
      obtain ⟨k, n, hk, rfl, rfl, hn, HN⟩ := hrel
      by_cases hlt : k < xs.length
      · obtain ⟨b, off, rfl, hbl, hcell⟩ := HV.out k hlt
        go_wp2
        all_goals first
          | (go_ret
             exact ⟨_, rfl, rfl, counted_big xs⟩)
          | (go_round
             case rel => exact ⟨k + 1, n + xs[k].size, by omega, by go_num, by go_num, by omega, by show _ = _; rw [HN.out, tot_take xs k hlt]; omega⟩
             case measure => simp [intOf]; omega)
      · go_wp2
        go_ret
        refine ⟨_, rfl, rfl, by omega, by omega, fun _ => ⟨hl, ?_⟩⟩
        have := HN.out
        rw [List.take_of_length_le (by omega)] at this
        rw [this]
  · go_enter Tryd.func10, Tryd.ntmps10
    go_wp2
    go_ret
    exact ⟨_, rfl, rfl, counted_big xs⟩

set_option maxRecDepth 100000 in
set_option maxHeartbeats 1600000 in
/-- The bound laid by program answers something, and turns nothing. -/
theorem zzBytes_any (xs ys : List ByteArray) (bs : List Bool) (p : ByteArray) (v1 v2 v3 : Value) (w : World) (h1 : VS w v1 xs) (h2 : VS w v2 ys) (h3 : VB w v3 bs) :
    Calls Tryd.prog 9 #[v1, v2, v3, .string p] w fun e w' => SomeBool e ∧ w' = w := by
  obtain ⟨ao, cap, rfl, hc⟩ := h1
  have HX : Hid (∀ k (h : k < xs.length), ∃ b off, ao = some ⟨b, off, none⟩ ∧ b < w.heap.size ∧ w.cell? ⟨b, off + k, none⟩ = some (.string xs[k])) := hc
  obtain ⟨ao2, cap2, rfl, hc2⟩ := h2
  have HY : Hid (∀ k (h : k < ys.length), ∃ b off, ao2 = some ⟨b, off, none⟩ ∧ b < w.heap.size ∧ w.cell? ⟨b, off + k, none⟩ = some (.string ys[k])) := hc2
  obtain ⟨ao3, cap3, rfl, hc3⟩ := h3
  clear hc hc2 hc3
  by_cases hlx : xs.length ≤ 1048576
  · go_enter Tryd.func9, Tryd.ntmps9
    go_wp2
    go_loop [9, 10] (fun nv iv => ∃ k n : Nat, k ≤ xs.length ∧ iv = .int .i64 k ∧ nv = .int .i64 n ∧ n ≤ 1048576) (fun _ iv => xs.length - (intOf iv).toNat)
    case atStart => exact ⟨0, xs.length, Nat.zero_le _, rfl, rfl, hlx⟩
    case round =>
      obtain ⟨k, n, hk, rfl, rfl, hn⟩ := hrel
      by_cases hlt : k < xs.length
      · obtain ⟨b, off, rfl, hbl, hcell⟩ := HX.out k hlt
        go_wp2
        all_goals first
          | (go_ret
             exact ⟨⟨_, rfl⟩, rfl⟩)
          | (go_round
             case rel => exact ⟨k + 1, n + xs[k].size, by omega, by go_num, by go_num, by omega⟩
             case measure => simp [intOf]; omega)
      · by_cases hly : ys.length ≤ 1048576
        · by_cases hny : n + ys.length ≤ 1048576
          · go_wp2
            go_loop [9, 11] (fun nv iv => ∃ k n : Nat, k ≤ ys.length ∧ iv = .int .i64 k ∧ nv = .int .i64 n ∧ n ≤ 1048576) (fun _ iv => ys.length - (intOf iv).toNat)
            case atStart => exact ⟨0, n + ys.length, Nat.zero_le _, rfl, by go_num, hny⟩
            case round =>
              obtain ⟨k', n', hk', rfl, rfl, hn'⟩ := hrel
              by_cases hlt' : k' < ys.length
              · obtain ⟨b, off, rfl, hbl, hcell⟩ := HY.out k' hlt'
                go_wp2
                all_goals first
                  | (go_ret
                     exact ⟨⟨_, rfl⟩, rfl⟩)
                  | (go_round
                     case rel => exact ⟨k' + 1, n' + ys[k'].size, by omega, by go_num, by go_num, by omega⟩
                     case measure => simp [intOf]; omega)
              · go_wp2
                all_goals
                  go_ret
                  exact ⟨⟨_, rfl⟩, rfl⟩
          · go_wp2
            go_ret
            exact ⟨⟨_, rfl⟩, rfl⟩
        · go_wp2
          go_ret
          exact ⟨⟨_, rfl⟩, rfl⟩
  · go_enter Tryd.func9, Tryd.ntmps9
    go_wp2
    go_ret
    exact ⟨⟨_, rfl⟩, rfl⟩

end Go.Proofs.Qxb6604015aDoor
