import Derived.Test.Qxb6604015aDoorRows
import Derived.Test.Qxb6604015aDoorPlain2
import Derived.Test.Qxb6604015aDoorLaws
import Derived.Test.Qxb6604015aDoorShelf
import Derived.Deep.QuietTactic
import Derived.BigQuiet
import Derived.Lib.IndexAny
namespace Go.Proofs.Qxb6604015aDoor
open Go.RowKit

theorem tokN_yes {n : Int} (h : (97 ≤ n ∧ n ≤ 122) ∨ (65 ≤ n ∧ n ≤ 90) ∨ (48 ≤ n ∧ n ≤ 57) ∨ n = 33 ∨ n = 35 ∨ n = 36 ∨ n = 37 ∨ n = 38 ∨ n = 39 ∨ n = 42 ∨ n = 43 ∨ n = 45 ∨ n = 46 ∨ n = 94 ∨ n = 95 ∨ n = 96 ∨ n = 124 ∨ n = 126) : true = tokN n := by
  simp only [tokN, decide_eq_true h]
theorem tokN_no {n : Int} (h : ¬ ((97 ≤ n ∧ n ≤ 122) ∨ (65 ≤ n ∧ n ≤ 90) ∨ (48 ≤ n ∧ n ≤ 57) ∨ n = 33 ∨ n = 35 ∨ n = 36 ∨ n = 37 ∨ n = 38 ∨ n = 39 ∨ n = 42 ∨ n = 43 ∨ n = 45 ∨ n = 46 ∨ n = 94 ∨ n = 95 ∨ n = 96 ∨ n = 124 ∨ n = 126)) : false = tokN n := by
  simp only [tokN, decide_eq_false h]

set_option maxHeartbeats 400000 in
theorem isTok_any (n : Int) (h0 : 0 ≤ n) (h1 : n ≤ 255) (w : World) :
    Calls Tryd.prog 27 #[.int .u8 n] w fun e w' => e = .returned (.bool (tokN n)) ∧ w' = w := by
  go_enter Tryd.func27, Tryd.ntmps27
  go_wp2
  all_goals
    go_ret
    refine ⟨ret_bool ?_, rfl⟩
    try simp only [beq_iff_eq, beq_eq_false_iff_ne, ne_eq] at *
    first | exact tokN_yes (by omega) | exact tokN_no (by omega)

/-- The marks among the tchars. -/
def markN (n : Int) : Prop := n = 33 ∨ n = 35 ∨ n = 36 ∨ n = 37 ∨ n = 38 ∨ n = 39 ∨ n = 42 ∨ n = 43 ∨ n = 45 ∨ n = 46 ∨ n = 94 ∨ n = 95 ∨ n = 96 ∨ n = 124 ∨ n = 126

theorem idx_mark (n : Nat) (h : n < 256) : (0 ≤ Lib.indexByte [33, 35, 36, 37, 38, 39, 42, 43, 45, 46, 94, 95, 96, 124, 126] n.toUInt8) ↔ markN n := by
  have h1 := Lib.contains_iff_indexByte [33, 35, 36, 37, 38, 39, 42, 43, 45, 46, 94, 95, 96, 124, 126] n.toUInt8
  have h2 : (0 ≤ Lib.indexByte [33, 35, 36, 37, 38, 39, 42, 43, 45, 46, 94, 95, 96, 124, 126] n.toUInt8) ↔ ([33, 35, 36, 37, 38, 39, 42, 43, 45, 46, 94, 95, 96, 124, 126] : List UInt8).contains n.toUInt8 = true := by
    rw [h1]; simp
  have e : ∀ m : Nat, m < 256 → (n.toUInt8 = m.toUInt8 ↔ (n : Int) = (m : Int)) := by
    intro m hm
    constructor
    · intro hh
      have := congrArg UInt8.toNat hh
      simp [Nat.toUInt8] at this
      omega
    · intro hh
      have : n = m := by omega
      rw [this]
  rw [h2]
  unfold markN
  simp only [List.contains_eq_mem, List.mem_cons, List.not_mem_nil, or_false, decide_eq_true_eq]
  have a1 := e 33 (by decide); have a2 := e 35 (by decide); have a3 := e 36 (by decide); have a4 := e 37 (by decide); have a5 := e 38 (by decide)
  have a6 := e 39 (by decide); have a7 := e 42 (by decide); have a8 := e 43 (by decide); have a9 := e 45 (by decide); have b1 := e 46 (by decide)
  have b2 := e 94 (by decide); have b3 := e 95 (by decide); have b4 := e 96 (by decide); have b5 := e 124 (by decide); have b6 := e 126 (by decide)
  exact or_congr a1 (or_congr a2 (or_congr a3 (or_congr a4 (or_congr a5 (or_congr a6 (or_congr a7 (or_congr a8 (or_congr a9 (or_congr b1 (or_congr b2 (or_congr b3 (or_congr b4 (or_congr b5 b6)))))))))))))

/-- The call of strings.IndexByte. -/
theorem idx_any (n : Nat) (h : n < 256) (w : World) :
    Calls Tryd.prog 32 #[.string ⟨#[33, 35, 36, 37, 38, 39, 42, 43, 45, 46, 94, 95, 96, 124, 126]⟩, .int .u8 (n : Int)] w fun e w' => ∃ z : Int, e = .returned (.int .i64 z) ∧ w' = w ∧ Hid (0 ≤ z ↔ markN n) := by
  refine (Tryd.strings_IndexByte _ _ w).mono ?_
  rintro e w' ⟨rfl, rfl⟩
  exact ⟨_, rfl, rfl, idx_mark n h⟩

theorem tok_step (s : ByteArray) (k : Nat) (h : k < s.size) (ht : tokN (s[k].toNat : Int) = true)
    (H : s.data.toList.takeWhile tokB = s.data.toList.take k ++ (s.data.toList.drop k).takeWhile tokB ∧ s.data.toList.dropWhile tokB = (s.data.toList.drop k).dropWhile tokB) :
    s.data.toList.takeWhile tokB = s.data.toList.take (k + 1) ++ (s.data.toList.drop (k + 1)).takeWhile tokB ∧ s.data.toList.dropWhile tokB = (s.data.toList.drop (k + 1)).dropWhile tokB := by
  have ht' : tokB s[k] = true := ht
  rw [H.1, H.2, drop_idx s k h, List.takeWhile_cons_of_pos ht', List.dropWhile_cons_of_pos ht', List.take_add_one, cell_idx s k h]
  simp
theorem tok_stop (s : ByteArray) (k : Nat) (hn : ∀ h : k < s.size, tokN (s[k].toNat : Int) = false)
    (H : s.data.toList.takeWhile tokB = s.data.toList.take k ++ (s.data.toList.drop k).takeWhile tokB ∧ s.data.toList.dropWhile tokB = (s.data.toList.drop k).dropWhile tokB) :
    s.data.toList.takeWhile tokB = s.data.toList.take k ∧ s.data.toList.dropWhile tokB = s.data.toList.drop k := by
  rw [H.1, H.2]
  by_cases h : k < s.size
  · have ht' : ¬ tokB s[k] = true := by have := hn h; simp [tokB, this]
    rw [drop_idx s k h, List.takeWhile_cons_of_neg ht', List.dropWhile_cons_of_neg ht']
    simp
  · rw [List.drop_eq_nil_of_le (by simpa using Nat.le_of_not_lt h)]
    simp

theorem tok_fin (s : ByteArray) (k : Nat) (hk : k ≤ s.size) (H : s.data.toList.takeWhile tokB = s.data.toList.take k ∧ s.data.toList.dropWhile tokB = s.data.toList.drop k) :
    Ending.returned (.tuple #[.string (s.extract 0 k), .string (s.extract k s.size), .bool (decide (0 < k))]) = .returned (.tuple #[.string ⟨(s.data.toList.takeWhile tokB).toArray⟩, .string ⟨(s.data.toList.dropWhile tokB).toArray⟩, .bool (!(s.data.toList.takeWhile tokB).isEmpty)]) := by
  rw [H.1, H.2, extract_take, extract_drop]
  have : decide (0 < k) = !(s.data.toList.take k).isEmpty := by
    have hl : (s.data.toList.take k).length = k := by simp; omega
    rw [Bool.eq_iff_iff]
    cases hh : s.data.toList.take k with
    | nil => rw [hh] at hl; simp at hl; simp; omega
    | cons a l => rw [hh] at hl; simp at hl; simp; omega
  rw [this]

set_option maxRecDepth 100000 in
set_option maxHeartbeats 800000 in
theorem cutToken_any (s : ByteArray) (hs : s.size ≤ 1073741824) (w : World) :
    Calls Tryd.prog 21 #[.string s] w fun e w' => e = .returned (.tuple #[.string ⟨(s.data.toList.takeWhile tokB).toArray⟩, .string ⟨(s.data.toList.dropWhile tokB).toArray⟩, .bool (!(s.data.toList.takeWhile tokB).isEmpty)]) ∧ ∃ n, w' = w.drewN n := by
  go_enter Tryd.func21, Tryd.ntmps21
  go_wp2_with fail
  go_loop [5] (fun i => ∃ k : Nat, k ≤ s.size ∧ i = .int .i64 k ∧ Hid (s.data.toList.takeWhile tokB = s.data.toList.take k ++ (s.data.toList.drop k).takeWhile tokB ∧ s.data.toList.dropWhile tokB = (s.data.toList.drop k).dropWhile tokB)) (fun i => s.size - (intOf i).toNat)
  case atStart => exact ⟨0, Nat.zero_le _, rfl, by constructor <;> simp⟩
  case round =>
    obtain ⟨k, hk, rfl, HK⟩ := hrel
    by_cases hlt : k < s.size
    · have hb : s[k].toNat < 256 := UInt8.toNat_lt _
      go_wp2_with (go_at_call 32; refine (idx_any _ hb _).mono ?_; rintro e w' ⟨z, rfl, rfl, HZ⟩)
      all_goals first
        | (go_round
           case rel =>
             refine ⟨k + 1, by omega, by go_num, tok_step s k hlt (tokN_yes ?_).symm HK⟩
             first | omega | (have hz := HZ.out; unfold markN at hz; omega)
           case measure => simp [intOf]; omega)
        | (have HS : Hid (s.data.toList.takeWhile tokB = s.data.toList.take k ∧ s.data.toList.dropWhile tokB = s.data.toList.drop k) := tok_stop s k (fun _ => (tokN_no (by have hz := HZ.out; unfold markN at hz; omega)).symm) HK
           clear HK HZ
           go_quiet (fail)
           go_wp2
           go_ret3
           exact ⟨tok_fin s k hk HS.out, _, rfl⟩)
    · have HS : Hid (s.data.toList.takeWhile tokB = s.data.toList.take k ∧ s.data.toList.dropWhile tokB = s.data.toList.drop k) := tok_stop s k (fun h => absurd h hlt) HK
      clear HK
      go_wp2
      go_quiet (fail)
      go_wp2
      go_ret3
      exact ⟨tok_fin s k hk HS.out, _, rfl⟩

end Go.Proofs.Qxb6604015aDoor
