import Derived.Test.Qxb6604015aDoorRows
import Derived.Test.Qxb6604015aDoorPlain2
import Derived.Test.Qxb6604015aDoorLaws
namespace Go.Proofs.Qxb6604015aDoor
open Go.RowKit

theorem Tryd.info5 : (Tryd.prog.info? 5).map (fun i => (i.zero, i.size, i.bytes)) = some (some (.int .u8 0), 1, 1) := by kernel_rfl

set_option maxRecDepth 100000 in
set_option maxHeartbeats 800000 in
theorem unesc_any (s : ByteArray) (hs : s.size ≤ 1073741824) (w : World) :
    Calls Tryd.prog 41 #[.string s] w fun e w' => e = .returned (.string ⟨(us false s.data.toList).toArray⟩) ∧ Below w.heap.size w w' := by
  obtain ⟨i5, hi, hz0, hz1, hz2⟩ := info_parts Tryd.info5
  go_enter Tryd.func41, Tryd.ntmps41
  go_wp2
  go_loopw [3, 4] (fun v i wr => ∃ (k : Nat) (acc : Bs), k ≤ s.size ∧ i = .int .i64 k ∧ acc.length ≤ k ∧ wr.ownsRow w.heap.size 5 1 v acc.length (bv acc) ∧ Below w.heap.size w wr ∧ Hid (us false s.data.toList = acc ++ us false (s.data.toList.drop k)))
    (fun _ i _ => s.size - (intOf i).toNat)
  case atStart => exact ⟨0, [], Nat.zero_le _, rfl, Nat.zero_le _, World.ownsRow_nil _ _ _ _, Below.refl _ _, rfl⟩
  case round =>
    obtain ⟨k, acc, hk, rfl, hac, hown, hnx, HU⟩ := hrel
    by_cases hlt : k < s.size
    · by_cases hc : ((s[k].toNat : Int) != 92) = true
      · have hne : s[k] ≠ 92 := by intro h; rw [h] at hc; simp at hc
        have HU' : Hid (us false s.data.toList = (acc ++ [s[k]]) ++ us false (s.data.toList.drop (k + 1))) := by
          show us false s.data.toList = _
          rw [HU.out, drop_idx s k hlt]
          simp [us, hne]
        clear HU hne
        go_wp2_with (first
          | (at_builtin; refine wpList_append_one _ rfl _ _ 32 rfl w.heap.size 5 i5 (.int .u8 0) 1 Tryd.underlying32 hi hz0 hz1 hz2 rfl _ _ _ rfl (hown.alloc _) w (hnx.alloc hnx.size _) ⟨wr.heap.size, 0, none⟩ (.int .u8 (s[k].toNat : Int)) rfl (World.cell?_alloc_mark _ _ _ _ 0) rfl ?c3 ?c4 ?c5 ?_))
        case c3 => omega
        case c4 => omega
        case c5 => have := hnx.size; simp; omega
        intro v' w1 hown' hgrow hnn hloc hb
        clear hgrow hloc hown hnx hnn
        go_wp2
        go_roundw
        case rel => exact ⟨k + 1, acc ++ [s[k]], by omega, by go_num, by simp; omega, by simpa [bv] using hown', hb, HU'⟩
        case measure => simp [intOf]; omega
      · have he : s[k] = 92 := by
          have : ((s[k].toNat : Int) != 92) = false := by simpa using hc
          exact byte_of_num (n := 92) (by simpa using this) (by decide)
        have hcb : ((s[k].toNat : Int) != 92) = false := by simpa using hc
        clear hc
        have HE : Hid (s[k] = 92) := he
        clear he
        go_wp2
        go_loop [5] (fun jv => ∃ j : Nat, k ≤ j ∧ j ≤ s.size ∧ jv = .int .i64 j ∧ Hid (s.data.toList.drop k = List.replicate (j - k) 92 ++ s.data.toList.drop j)) (fun j => s.size - (intOf j).toNat)
        case atStart => exact ⟨k, by omega, by omega, rfl, by show _ = _; simp⟩
        case round =>
          obtain ⟨j, hkj, hj, rfl, HR⟩ := hrel
          by_cases hgo : ∃ h : j < s.size, ((s[j].toNat : Int) == 92) = true
          · obtain ⟨hjl, hb⟩ := hgo
            have HR' : Hid (s.data.toList.drop k = List.replicate (j + 1 - k) 92 ++ s.data.toList.drop (j + 1)) := by
              show s.data.toList.drop k = _
              have h92 : s[j] = 92 := byte_of_num (n := 92) (by simpa using hb) (by decide)
              have e : j + 1 - k = (j - k) + 1 := by omega
              rw [HR.out, drop_idx s j hjl, h92, e, List.replicate_succ', List.append_assoc]
              rfl
            clear HR
            go_wp2
            go_round
            case rel => exact ⟨j + 1, by omega, by omega, by go_num, HR'⟩
            case measure => simp [intOf]; omega
          · have hcase : (∃ h : j < s.size, ((s[j].toNat : Int) == 92) = false) ∨ ¬ j < s.size := by
              by_cases hjl : j < s.size
              · exact .inl ⟨hjl, by simpa using fun h => hgo ⟨hjl, by simpa using h⟩⟩
              · exact .inr hjl
            have HU' : Hid (us false s.data.toList = (acc ++ List.replicate ((j - k) / 2) 92) ++ us false (s.data.toList.drop j)) := by
              show us false s.data.toList = _
              rw [HU.out, HR.out, us_run, List.append_assoc]
              rcases hcase with ⟨hjl, hb⟩ | hjl
              · rw [drop_idx s j hjl]
                intro h
                simp at h
                rw [h] at hb
                simp at hb
              · rw [List.drop_eq_nil_of_le (by simpa using Nat.le_of_not_lt hjl)]
                simp
            have hlen : 0 < j - k := by
              rcases Nat.lt_or_ge k j with h | h
              · omega
              · have e : j = k := by omega
                subst e
                exact absurd ⟨hlt, by rw [HE.out]; rfl⟩ hgo
            obtain ⟨q, hq1, hq2, HU2⟩ : ∃ q : Nat, k + 2 * q ≤ j ∧ j ≤ k + 2 * q + 1 ∧ Hid (us false s.data.toList = (acc ++ List.replicate q 92) ++ us false (s.data.toList.drop j)) := ⟨(j - k) / 2, by omega, by omega, HU'⟩
            clear hgo HU HR HU' HE
            rcases hcase with ⟨hjl, hb⟩ | hjl
            all_goals
              go_wp2
              first | clear hb | skip
              clear hcb
              go_loopw [3, 6] (fun v mv wr' => ∃ m : Nat, m ≤ q ∧ mv = .int .i64 m ∧ wr'.ownsRow w.heap.size 5 1 v (acc.length + m) (bv (acc ++ List.replicate m 92)) ∧ Below w.heap.size w wr') (fun _ mv _ => q - (intOf mv).toNat)
              case atStart => exact ⟨0, Nat.zero_le _, rfl, by simpa using hown, hnx⟩
              case round =>
                obtain ⟨m, hm, rfl, hown2, hnx2⟩ := hrel
                by_cases hml : m < q
                · go_wp2_with (first
                    | (at_builtin; refine wpList_append_one _ rfl _ _ 32 rfl w.heap.size 5 i5 (.int .u8 0) 1 Tryd.underlying32 hi hz0 hz1 hz2 rfl _ _ _ rfl (hown2.alloc _) w (hnx2.alloc hnx2.size _) ⟨_, 0, none⟩ (.int .u8 92) rfl (World.cell?_alloc_mark _ _ _ _ 0) rfl (by omega) (by omega) (by have := hnx2.size; simp; omega) ?_))
                  intro v' w1 hown' hgrow hnn hloc hb2
                  clear hgrow hloc hown2 hnx2 hnn
                  go_wp2
                  go_roundw
                  case rel => exact ⟨m + 1, by omega, by go_num, by simpa [bv, List.replicate_succ', Nat.add_assoc] using hown', hb2⟩
                  case measure => simp [intOf]; omega
                · have e : m = q := by omega
                  subst e
                  go_wp2
                  go_roundw
                  case rel => exact ⟨j, acc ++ List.replicate m 92, by omega, rfl, by simp; omega, by simpa using hown2, hnx2, HU2⟩
                  case measure => simp [intOf]; omega
    · have e : k = s.size := by omega
      subst e
      have HU' : Hid (us false s.data.toList = acc) := by
        show _ = _
        rw [HU.out, List.drop_eq_nil_of_le (by simp)]
        simp [us]
      have hcv := run_string_own (P := Tryd.prog) (src := 32) (dst := 9) hown Tryd.underlying32 Tryd.underlying5 Tryd.underlying9
      clear HU
      go_wp2
      go_ret
      exact ⟨ret_str HU'.out.symm, hnx⟩

end Go.Proofs.Qxb6604015aDoor
