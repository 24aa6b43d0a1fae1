import Derived.Test.Qxb6604678aGreatFmtW
import Derived.Deep.DeepCutAuto
import Derived.Deep.CutBlock
import Derived.Lib.SliceRun
import Derived.Laws.BitsAllLaws
namespace Go.Proofs.Qxb6604678aGreatFmt
open Go Go.RowKit

def Put (base : Nat) (w0 : World) (l : Bs) (e : Ending) (w' : World) : Prop := ∃ v', e = .returned v' ∧ BRow base 5 w0 w' v' l

theorem all_take (s : ByteArray) (k : Nat) (h : k < s.size) : (s.data.toList.take (k + 1)).all bareB = ((s.data.toList.take k).all bareB && bareB s[k]) := by
  rw [List.take_add_one, cell_idx s k h, List.all_append]
  simp
theorem enc_take (s : ByteArray) (k : Nat) (h : k < s.size) : encS (s.data.toList.take (k + 1)) = encS (s.data.toList.take k) ++ encB s[k] := by
  rw [List.take_add_one, cell_idx s k h, encS_append]
  simp [encS]
theorem encB_len (c : UInt8) : (encB c).length ≤ 4 := by
  unfold encB
  split
  · simp
  · split <;> simp
theorem encS_len : ∀ l : Bs, (encS l).length ≤ 4 * l.length
  | [] => by simp [encS]
  | c :: t => by
    have := encS_len t
    have := encB_len c
    simp only [encS, List.length_append, List.length_cons]
    omega

def esc2 (x y : UInt8) : Bs := [92, 120, x, y]
def esc4 (c : UInt8) : Bs := esc2 (hexD (c >>> 4)) (hexD (c &&& 15))
/-- The ways a byte is written. -/
def EncC (c : UInt8) (n : Int) : Prop :=
  (encB c = [92, c] ∧ (n == 34) = true) ∨
  (encB c = [92, c] ∧ (n == 34) = false ∧ (n == 92) = true) ∨
  (encB c = [92, 120, hexD (c >>> 4), hexD (c &&& 15)] ∧ (n == 34) = false ∧ (n == 92) = false ∧ decide (n < 32) = true ∧ (n == 9) = false) ∨
  (encB c = [92, 120, hexD (c >>> 4), hexD (c &&& 15)] ∧ (n == 34) = false ∧ (n == 92) = false ∧ decide (n < 32) = false ∧ (n == 127) = true) ∨
  (encB c = [c] ∧ (n == 34) = false ∧ (n == 92) = false ∧ decide (n < 32) = true ∧ (n == 9) = true ∧ (n == 127) = false) ∨
  (encB c = [c] ∧ (n == 34) = false ∧ (n == 92) = false ∧ decide (n < 32) = false ∧ (n == 127) = false)
theorem enc_cases (c : UInt8) : EncC c (c.toNat : Int) := by
  unfold EncC
  have e34 : ((c.toNat : Int) == 34) = (c == 34) := byte_is c 34
  have e92 : ((c.toNat : Int) == 92) = (c == 92) := byte_is c 92
  have e9 : ((c.toNat : Int) == 9) = (c == 9) := byte_is c 9
  have e127 : ((c.toNat : Int) == 127) = (c == 127) := byte_is c 127
  have hd : decide ((c.toNat : Int) < 32) = decide (c.toNat < 32) := by congr 1; exact propext (by omega)
  rw [e34, e92, e9, e127, hd]
  unfold encB ctl
  by_cases h34 : c = 34
  · subst h34; exact .inl ⟨by simp, rfl⟩
  · by_cases h92 : c = 92
    · subst h92; exact .inr (.inl ⟨by simp, rfl, rfl⟩)
    · by_cases h32 : c.toNat < 32
      · by_cases h9 : c = 9
        · subst h9; exact .inr (.inr (.inr (.inr (.inl ⟨by decide, rfl, rfl, rfl, rfl, rfl⟩))))
        · exact .inr (.inr (.inl ⟨by simp [h34, h92, h32, h9], by simpa using h34, by simpa using h92, by simpa using h32, by simpa using h9⟩))
      · by_cases h127 : c = 127
        · subst h127; exact .inr (.inr (.inr (.inl ⟨by decide, rfl, rfl, rfl, rfl⟩)))
        · exact .inr (.inr (.inr (.inr (.inr ⟨by simp [h34, h92, h32, h127], by simpa using h34, by simpa using h92, by simpa using h32, by simpa using h127⟩))))

theorem hi4 (c : UInt8) : (c >>> 4).toNat = c.toNat / 16 := by
  rw [UInt8.toNat_shiftRight]
  simp [Nat.shiftRight_eq_div_pow]
theorem lo4 (c : UInt8) : (c &&& 15).toNat = c.toNat % 16 := by
  rw [UInt8.toNat_and]
  exact Nat.and_two_pow_sub_one_eq_mod c.toNat 4

theorem and15 (c : UInt8) : bits .and .u8 (c.toNat : Int) 15 = ((c &&& 15).toNat : Int) := by
  rw [show (15 : Int) = ((15 : Nat) : Int) from rfl, u8_and_nat c.toNat 15 (UInt8.toNat_lt c) (by decide), UInt8.toNat_and]
  rfl
theorem wpart_bare {p : Bs} (h : p ≠ []) (h2 : p.all bareB = true) : wpart p = p := by unfold wpart; rw [if_pos ⟨h, h2⟩]
theorem wpart_quoted {p : Bs} (h : ¬ (p ≠ [] ∧ p.all bareB = true)) : wpart p = 34 :: (encS p ++ [34]) := by unfold wpart; rw [if_neg h]

/-- Whether the first k bytes are bare ones (and there is a byte at all). -/
def bareTo (s : ByteArray) (k : Nat) : Bool := decide (0 < s.size) && (s.data.toList.take k).all bareB
theorem bareTo_zero (s : ByteArray) : bareTo s 0 = decide (0 < s.size) := by simp [bareTo]
theorem bareTo_succ (s : ByteArray) (k : Nat) (h : k < s.size) : bareTo s (k + 1) = (bareTo s k && bareB s[k]) := by
  unfold bareTo
  rw [all_take s k h, Bool.and_assoc]
theorem bareTo_all (s : ByteArray) : bareTo s s.size = true ↔ (s.data.toList ≠ [] ∧ s.data.toList.all bareB = true) := by
  unfold bareTo
  rw [List.take_of_length_le (by simp), Bool.and_eq_true, decide_eq_true_eq, ← List.length_pos_iff]
  simp
theorem encTo_len (s : ByteArray) (k : Nat) : (encS (s.data.toList.take k)).length ≤ 4 * s.size := by
  have := encS_len (s.data.toList.take k)
  have h2 : (s.data.toList.take k).length ≤ s.size := by
    rw [List.length_take, Array.length_toList]
    exact Nat.min_le_right _ _
  omega

theorem Tryz.rinfo5 : (Tryz.prog.info? 5).map (fun i => (i.zero, i.size, i.bytes)) = some (some (.int .u8 0), 1, 1) := by kernel_rfl
theorem info_parts {i? : Option TypeInfo} {z : Value} {a b : Nat} (h : i?.map (fun i => (i.zero, i.size, i.bytes)) = some (some z, a, b)) : ∃ i, i? = some i ∧ i.zero = some z ∧ i.size = a ∧ i.bytes = b := by
  cases i? with
  | none => cases h
  | some i =>
    simp at h
    exact ⟨i, rfl, h.1, h.2.1, h.2.2⟩

/-- One byte more is written. -/
theorem BRow.cast {base e : Nat} {w0 W : World} {v : Value} {l l' : Bs} (h : BRow base e w0 W v l) (hl : l = l') : BRow base e w0 W v l' := hl ▸ h

set_option maxRecDepth 100000 in
set_option maxHeartbeats 3200000 in
theorem akp_any (s : ByteArray) (hs : s.size ≤ 1048576) (base : Nat) (w0 w : World) (v : Value) (l : Bs) (hR : BRow base 5 w0 w v l) (hl : l.length ≤ 16777216) :
    Calls Tryz.prog 9 #[v, .string s] w fun e w' => Put base w0 (l ++ wpart s.data.toList) e w' := by
  obtain ⟨i5, hi5, hz0, hz1, hz2⟩ := info_parts Tryz.rinfo5
  go_enter Tryz.func9, Tryz.ntmps9
  go_upto_block 0 with fail
  go_cut [5] (fun b wd => b = .bool (bareTo s s.size) ∧ wd = w)
  case first =>
    go_wp2_with fail
    go_loop [5, 6] (fun bv iv => ∃ k : Nat, k ≤ s.size ∧ iv = .int .i64 k ∧ bv = .bool (bareTo s k)) (fun _ iv => s.size - (intOf iv).toNat)
    case atStart => exact ⟨0, Nat.zero_le _, rfl, by rw [bareTo_zero]⟩
    case round =>
      obtain ⟨k, hk, rfl, rfl⟩ := hrel
      by_cases hlt : k < s.size
      · have HT := bareTo_succ s k hlt
        have CALL := bare_any s[k] w
        cases hb : bareB s[k]
        · rw [hb] at HT CALL
          go_wp2_with fail
          refine CALL.mono ?_
          rintro e w1 ⟨rfl, rfl⟩
          go_wp2
          go_round
          case rel => exact ⟨k + 1, by omega, by go_num, by rw [HT]; simp⟩
          case measure => simp [intOf]; omega
        · rw [hb] at HT CALL
          go_wp2_with fail
          refine CALL.mono ?_
          rintro e w1 ⟨rfl, rfl⟩
          go_wp2
          go_round
          case rel => exact ⟨k + 1, by omega, by go_num, by rw [HT]; simp⟩
          case measure => simp [intOf]; omega
      · obtain rfl : k = s.size := by omega
        go_wp2
        go_meet
        case rel => exact ⟨rfl, rfl⟩
  case rest =>
    obtain ⟨rfl, rfl⟩ := hcut
    cases hb : bareTo s s.size
    · have HW : Hid (wpart s.data.toList = 34 :: (encS s.data.toList ++ [34])) := wpart_quoted fun h => by rw [(bareTo_all s).2 h] at hb; cases hb
      clear hb
      rename World => W
      go_wp2_with (at_builtin; refine wpList_bytes_row _ rfl _ _ 32 rfl base 5 i5 Tryz.underlying32 hi5 hz0 hz1 hz2 _ _ rfl w0 (hR.alloc _) _ 1 1 rfl _ _ _ (heap_new_at rfl) [34] rfl rfl (by omega) ?_)
      intro va wa hRa
      clear hR
      go_wp2_with fail
      go_loopw [0, 7] (fun bv iv wr => ∃ k : Nat, k ≤ s.size ∧ iv = .int .i64 k ∧ BRow base 5 w0 wr bv (l ++ [34] ++ encS (s.data.toList.take k))) (fun _ iv _ => s.size - (intOf iv).toNat)
      case atStart => exact ⟨0, Nat.zero_le _, rfl, hRa.cast (by simp [encS])⟩
      case round =>
        obtain ⟨k, hk, rfl, hR⟩ := hrel
        have hen := encTo_len s k
        clear hRa
        by_cases hlt : k < s.size
        · have HT : Hid (l ++ [34] ++ encS (s.data.toList.take (k + 1)) = l ++ [34] ++ encS (s.data.toList.take k) ++ encB s[k]) := by show _ = _; rw [enc_take s k hlt, List.append_assoc (l ++ [34])]
          have hll : (l ++ [34] ++ encS (s.data.toList.take k)).length ≤ 16777216 + 1 + 4 * s.size := by simp only [List.length_append, List.length_cons, List.length_nil]; omega
          generalize l ++ [34] ++ encS (s.data.toList.take k) = F at *
          clear hen
          rcases enc_cases s[k] with ⟨he, h1⟩ | ⟨he, h1, h2⟩ | ⟨he, h1, h2, h3, h4⟩ | ⟨he, h1, h2, h3, h4⟩ | ⟨he, h1, h2, h3, h4, h5⟩ | ⟨he, h1, h2, h3, h4⟩
          · have HE : Hid (l ++ [34] ++ encS (s.data.toList.take (k + 1)) = F ++ [92, s[k]]) := by show _ = _; rw [HT.out, he]
            clear he HT
            go_wp2_with (at_builtin; refine wpList_bytes_row _ rfl _ _ 32 rfl base 5 i5 Tryz.underlying32 hi5 hz0 hz1 hz2 _ _ rfl w0 (hR.alloc _) _ 2 2 rfl _ _ _ (heap_new_at rfl) [92, s[k]] rfl rfl (by omega) ?_)
            intro vb wb hRb
            clear hR
            go_wp2
            go_roundw
            case rel => exact ⟨k + 1, by omega, by go_num, hRb.cast HE.out.symm⟩
            case measure => simp [intOf]; omega
          · have HE : Hid (l ++ [34] ++ encS (s.data.toList.take (k + 1)) = F ++ [92, s[k]]) := by show _ = _; rw [HT.out, he]
            clear he HT
            go_wp2_with (at_builtin; refine wpList_bytes_row _ rfl _ _ 32 rfl base 5 i5 Tryz.underlying32 hi5 hz0 hz1 hz2 _ _ rfl w0 (hR.alloc _) _ 2 2 rfl _ _ _ (heap_new_at rfl) [92, s[k]] rfl rfl (by omega) ?_)
            intro vb wb hRb
            clear hR
            go_wp2
            go_roundw
            case rel => exact ⟨k + 1, by omega, by go_num, hRb.cast HE.out.symm⟩
            case measure => simp [intOf]; omega
          · have HE : Hid (l ++ [34] ++ encS (s.data.toList.take (k + 1)) = F ++ esc4 s[k]) := by show _ = _; rw [HT.out, he]; rfl
            clear he HT
            have h9 : ((s[k].toNat : Int) != 9) = true := by simp_all
            have q1 : (s[k].toNat : Int) / 16 = ((s[k] >>> 4).toNat : Int) := by rw [hi4]; omega
            have q2 := and15 s[k]
            have C1 := hex_any (s[k] >>> 4) (by have := UInt8.toNat_lt s[k]; rw [hi4]; omega) wr
            have C2 := hex_any (s[k] &&& 15) (by rw [lo4]; omega) wr
            rw [← q1] at C1
            rw [← q2] at C2
            have HE2 := HE
            unfold esc4 at HE2
            clear q1 q2 HE
            generalize hexD (s[k] >>> 4) = x at *
            generalize hexD (s[k] &&& 15) = y at *
            go_wp2_with fail
            refine C1.mono ?_
            rintro e w1 ⟨rfl, rfl⟩
            clear C1
            go_wp2_with fail
            refine C2.mono ?_
            rintro e w1 ⟨rfl, rfl⟩
            clear C2
            go_wp2_with (at_builtin; refine wpList_bytes_row _ rfl _ _ 32 rfl base 5 i5 Tryz.underlying32 hi5 hz0 hz1 hz2 _ _ rfl w0 (hR.alloc _) _ 4 4 rfl _ _ _ (heap_new_at rfl) [92, 120, x, y] rfl rfl (by omega) ?_)
            intro vb wb hRb
            clear hR
            go_wp2
            go_roundw
            case rel => exact ⟨k + 1, by omega, by go_num, hRb.cast HE2.out.symm⟩
            case measure => simp [intOf]; omega
          · have HE : Hid (l ++ [34] ++ encS (s.data.toList.take (k + 1)) = F ++ esc4 s[k]) := by show _ = _; rw [HT.out, he]; rfl
            clear he HT
            have h9 : ((s[k].toNat : Int) != 9) = true := by simp_all
            have q1 : (s[k].toNat : Int) / 16 = ((s[k] >>> 4).toNat : Int) := by rw [hi4]; omega
            have q2 := and15 s[k]
            have C1 := hex_any (s[k] >>> 4) (by have := UInt8.toNat_lt s[k]; rw [hi4]; omega) wr
            have C2 := hex_any (s[k] &&& 15) (by rw [lo4]; omega) wr
            rw [← q1] at C1
            rw [← q2] at C2
            have HE2 := HE
            unfold esc4 at HE2
            clear q1 q2 HE
            generalize hexD (s[k] >>> 4) = x at *
            generalize hexD (s[k] &&& 15) = y at *
            go_wp2_with fail
            refine C1.mono ?_
            rintro e w1 ⟨rfl, rfl⟩
            clear C1
            go_wp2_with fail
            refine C2.mono ?_
            rintro e w1 ⟨rfl, rfl⟩
            clear C2
            go_wp2_with (at_builtin; refine wpList_bytes_row _ rfl _ _ 32 rfl base 5 i5 Tryz.underlying32 hi5 hz0 hz1 hz2 _ _ rfl w0 (hR.alloc _) _ 4 4 rfl _ _ _ (heap_new_at rfl) [92, 120, x, y] rfl rfl (by omega) ?_)
            intro vb wb hRb
            clear hR
            go_wp2
            go_roundw
            case rel => exact ⟨k + 1, by omega, by go_num, hRb.cast HE2.out.symm⟩
            case measure => simp [intOf]; omega
          · have HE : Hid (l ++ [34] ++ encS (s.data.toList.take (k + 1)) = F ++ [s[k]]) := by show _ = _; rw [HT.out, he]
            clear he HT
            have h9 : ((s[k].toNat : Int) != 9) = false := by simp_all
            go_wp2_with (at_builtin; refine wpList_bytes_row _ rfl _ _ 32 rfl base 5 i5 Tryz.underlying32 hi5 hz0 hz1 hz2 _ _ rfl w0 (hR.alloc _) _ 1 1 rfl _ _ _ (heap_new_at rfl) [s[k]] rfl rfl (by omega) ?_)
            intro vb wb hRb
            clear hR
            go_wp2
            go_roundw
            case rel => exact ⟨k + 1, by omega, by go_num, hRb.cast HE.out.symm⟩
            case measure => simp [intOf]; omega
          · have HE : Hid (l ++ [34] ++ encS (s.data.toList.take (k + 1)) = F ++ [s[k]]) := by show _ = _; rw [HT.out, he]
            clear he HT
            go_wp2_with (at_builtin; refine wpList_bytes_row _ rfl _ _ 32 rfl base 5 i5 Tryz.underlying32 hi5 hz0 hz1 hz2 _ _ rfl w0 (hR.alloc _) _ 1 1 rfl _ _ _ (heap_new_at rfl) [s[k]] rfl rfl (by omega) ?_)
            intro vb wb hRb
            clear hR
            go_wp2
            go_roundw
            case rel => exact ⟨k + 1, by omega, by go_num, hRb.cast HE.out.symm⟩
            case measure => simp [intOf]; omega
        · obtain rfl : k = s.size := by omega
          rw [List.take_of_length_le (by simp)] at hR hen
          have hll : (l ++ [34] ++ encS s.data.toList).length ≤ 16777216 + 1 + 4 * s.size := by simp only [List.length_append, List.length_cons, List.length_nil]; omega
          have HE : Hid (l ++ wpart s.data.toList = l ++ [34] ++ encS s.data.toList ++ [34]) := by show _ = _; rw [HW.out]; simp
          generalize l ++ [34] ++ encS s.data.toList = F at *
          clear hen
          go_wp2_with (at_builtin; refine wpList_bytes_row _ rfl _ _ 32 rfl base 5 i5 Tryz.underlying32 hi5 hz0 hz1 hz2 _ _ rfl w0 (hR.alloc _) _ 1 1 rfl _ _ _ (heap_new_at rfl) [34] rfl rfl (by omega) ?_)
          intro vb wb hRb
          clear hR
          go_wp2
          go_ret
          exact ⟨vb, rfl, hRb.cast HE.out.symm⟩
    · have HW : Hid (wpart s.data.toList = s.data.toList) := wpart_bare ((bareTo_all s).1 hb).1 ((bareTo_all s).1 hb).2
      clear hb
      go_wp2_with (at_builtin; refine wpList_bytes_string _ rfl _ _ 32 9 rfl base 5 i5 Tryz.underlying32 Tryz.underlying9 hi5 hz0 hz1 hz2 _ _ rfl w0 hR s rfl (by omega) ?_)
      intro va wa hRa
      go_wp2
      go_ret
      exact ⟨va, rfl, by rw [HW.out]; exact hRa⟩
end Go.Proofs.Qxb6604678aGreatFmt
