import Derived.Test.Qxb6604015aDoorRows
import Derived.Test.Qxb6604015aDoorPlain2
import Derived.Test.Qxb6604015aDoorLaws
import Derived.Test.Qxb6604015aDoorShelf
import Derived.Deep.QuietTactic
import Derived.BigQuiet
import Derived.Deep.RegionWith
namespace Go.Proofs.Qxb6604015aDoor
open Go.RowKit

/-- What cutQuoted and its model hand back. -/
def quoV : Option (Bs × Bs) → Value
  | none => .tuple #[.string ⟨#[]⟩, .string ⟨#[]⟩, .bool false]
  | some p => .tuple #[.string ⟨p.1.toArray⟩, .string ⟨p.2.toArray⟩, .bool true]

/-- The bytes behind the first. -/
def tl (s : ByteArray) : Bs := s.data.toList.drop 1

theorem quo_none {o : Option (Bs × Bs)} (h : o = none) : Ending.returned (.tuple #[.string ⟨#[]⟩, .string ⟨#[]⟩, .bool false]) = .returned (quoV o) := by rw [h]; rfl

theorem quo_some {o : Option (Bs × Bs)} {x : Bs} {r : ByteArray} {q : Bs} (h : o = some (x, q)) (hr : r = ⟨q.toArray⟩) : Ending.returned (.tuple #[.string ⟨x.toArray⟩, .string r, .bool true]) = .returned (quoV o) := by rw [h, hr]; rfl

/-- What is left to scan, and what the builder holds. -/
def qrel (t acc r : Bs) : Prop := qs false t = (qs false r).map fun p => (acc ++ p.1, p.2)

theorem qrel_plain {t acc r : Bs} {c : UInt8} (h : qrel t acc (c :: r)) (h1 : c ≠ 34) (h2 : c ≠ 92) : qrel t (acc ++ [c]) r := by
  unfold qrel at *
  rw [h]
  simp [qs, h1, h2, Option.map_map, Function.comp_def]
theorem qrel_esc {t acc r : Bs} {c : UInt8} (h : qrel t acc (92 :: c :: r)) : qrel t (acc ++ [c]) r := by
  unfold qrel at *
  rw [h]
  simp [qs, Option.map_map, Function.comp_def]
theorem qrel_close {t acc r : Bs} (h : qrel t acc (34 :: r)) : qs false t = some (acc, r) := by
  unfold qrel at h
  rw [h]
  simp [qs]
theorem qrel_end {t acc : Bs} (h : qrel t acc []) : qs false t = none := by
  unfold qrel at h
  rw [h]
  simp [qs]
theorem qrel_end' {t acc : Bs} (h : qrel t acc [92]) : qs false t = none := by
  unfold qrel at h
  rw [h]
  simp [qs]

set_option maxRecDepth 100000 in
set_option maxHeartbeats 800000 in
theorem cutQuoted_any (s : ByteArray) (hs : s.size ≤ 1073741824) (h1 : 1 ≤ s.size) (w : World) :
    Calls Tryd.prog 25 #[.string s] w fun e w' => e = .returned (quoV (qs false (tl s))) ∧ Below w.heap.size w w' := by
  go_enter Tryd.func25, Tryd.ntmps25
  go_wp2_with fail
  go_loopw [6] (fun i wr => ∃ (k : Nat) (acc : Bs), 1 ≤ k ∧ k ≤ s.size ∧ i = .int .i64 k ∧ acc.length ≤ k ∧ Hid (Lib.IsBuilder 61 5 w.heap.size w.heap.size (Lib.byteCells acc) wr) ∧ Below w.heap.size w wr ∧ Hid (qrel (s.data.toList.drop 1) acc (s.data.toList.drop k)))
    (fun i _ => s.size - (intOf i).toNat)
  case atStart => exact ⟨1, [], by omega, h1, rfl, Nat.zero_le _, Lib.fresh_isBuilder 61 5 w, (Below.refl _ _).alloc (Nat.le_refl _) _, by show qrel _ _ _; unfold qrel; simp⟩
  case round =>
    obtain ⟨k, acc, hk1, hk, rfl, hac, HB, hnx, HQ⟩ := hrel
    have hsz := hnx.size
    by_cases hlt : k < s.size
    · by_cases hc : ((s[k].toNat : Int) == 34) = true
      · have HQ' : Hid (qs false (s.data.toList.drop 1) = some (acc, s.data.toList.drop (k + 1))) := by
          have e : s[k] = 34 := byte_of_num (n := 34) (by simpa using hc) (by decide)
          have := HQ.out
          rw [drop_idx s k hlt, e] at this
          exact qrel_close this
        clear HQ
        go_wp2
        have hwr : IntKind.i64.wrap ((k : Int) + 1) = ((k + 1 : Nat) : Int) := by rw [IntKind.wrap_i64]; omega
        have hk2 : k + 1 ≤ s.size := by omega
        go_region_with (go_at_call 36; refine (Tryd.Builder_String_any w.heap.size w.heap.size acc _ (by exact HB.out) (by exact hsz)).mono ?_; rintro e w1 ⟨rfl, hb⟩)
        all_goals
          go_wp2
          go_ret3
          exact ⟨quo_some HQ'.out (extract_drop s (k + 1)), hnx.drew.trans (by assumption)⟩
      · have hc' : ((s[k].toNat : Int) == 34) = false := by simpa using hc
        by_cases hd : ((s[k].toNat : Int) == 92) = true
        · by_cases hl2 : k + 1 < s.size
          · have HQ' : Hid (qrel (s.data.toList.drop 1) (acc ++ [s[k + 1]]) (s.data.toList.drop (k + 2))) := by
              have e : s[k] = 92 := byte_of_num (n := 92) (by simpa using hd) (by decide)
              have := HQ.out
              rw [drop_idx s k hlt, e, drop_idx s (k + 1) hl2] at this
              exact qrel_esc this
            have hne : ((k : Int) + 1 == (s.size : Int)) = false := by simp; omega
            clear HQ hc
            go_wp2_with (go_at_call 35; refine (Tryd.Builder_WriteByte w.heap.size w.heap.size _ _ _ HB.out (by simp [Lib.byteCells]; omega) hsz).mono ?_; rintro e w1 ⟨rfl, hB, hb⟩)
            go_roundw
            case rel => exact ⟨k + 2, acc ++ [s[k + 1]], by omega, by omega, by go_num, by simp; omega, .inr (by simpa [Lib.byteCells] using hB), hnx.trans hb, HQ'⟩
            case measure => simp [intOf]; omega
          · have HQ' : Hid (qs false (s.data.toList.drop 1) = none) := by
              have e : s[k] = 92 := byte_of_num (n := 92) (by simpa using hd) (by decide)
              have := HQ.out
              rw [drop_idx s k hlt, e, List.drop_eq_nil_of_le (i := k + 1) (by simp; omega)] at this
              exact qrel_end' this
            have hne : ((k : Int) + 1 == (s.size : Int)) = true := by simp; omega
            clear HQ hc
            go_wp2
            go_ret3
            exact ⟨quo_none HQ'.out, hnx⟩
        · have hd' : ((s[k].toNat : Int) == 92) = false := by simpa using hd
          have HQ' : Hid (qrel (s.data.toList.drop 1) (acc ++ [s[k]]) (s.data.toList.drop (k + 1))) := by
            have e1 : s[k] ≠ 34 := fun h => hc (by rw [h]; rfl)
            have e2 : s[k] ≠ 92 := fun h => hd (by rw [h]; rfl)
            have := HQ.out
            rw [drop_idx s k hlt] at this
            exact qrel_plain this e1 e2
          clear HQ hc hd
          go_wp2_with (go_at_call 35; refine (Tryd.Builder_WriteByte w.heap.size w.heap.size _ _ _ HB.out (by simp [Lib.byteCells]; omega) hsz).mono ?_; rintro e w1 ⟨rfl, hB, hb⟩)
          go_roundw
          case rel => exact ⟨k + 1, acc ++ [s[k]], by omega, by omega, by go_num, by simp; omega, .inr (by simpa [Lib.byteCells] using hB), hnx.trans hb, HQ'⟩
          case measure => simp [intOf]; omega
    · have HQ' : Hid (qs false (s.data.toList.drop 1) = none) := by
        have := HQ.out
        rw [List.drop_eq_nil_of_le (i := k) (by simp; omega)] at this
        exact qrel_end this
      clear HQ
      go_wp2
      go_ret3
      exact ⟨quo_none HQ'.out, hnx⟩

end Go.Proofs.Qxb6604015aDoor
