import Derived.Test.Qxb6604015aDoorUnesc
import Derived.Test.Qxb6604015aDoorQuo
namespace Go.Proofs.Qxb6604015aDoor
open Go.RowKit

theorem trail_nil : trail [] = 0 := rfl
theorem tail_idx (s : ByteArray) (m : Nat) (h : m + 1 < s.size) : (s.data.toList.drop 1)[m]? = some s[m + 1] := by
  rw [List.getElem?_drop, show 1 + m = m + 1 from by omega]
  exact cell_idx s (m + 1) h
theorem trail_take (s : ByteArray) (m : Nat) (h : m + 1 < s.size) : trail ((s.data.toList.drop 1).take (m + 1)) = if s[m + 1] = 92 then trail ((s.data.toList.drop 1).take m) + 1 else 0 := by
  rw [List.take_add_one, tail_idx s m h]
  exact trail_snoc _ _
theorem closes_iff (s : ByteArray) (m : Nat) (h : m + 1 < s.size) : closes false (s.data.toList.drop 1) m ↔ (s[m + 1] = 34 ∧ trail ((s.data.toList.drop 1).take m) % 2 = 0) := by
  unfold closes
  rw [tail_idx s m h, stQ_trail]
  simp
theorem closes_lt (s : ByteArray) (m : Nat) (h : closes false (s.data.toList.drop 1) m) : m + 1 < s.size := by
  have := (List.getElem?_eq_some_iff.1 h.1).1
  simp at this
  omega

theorem mq_step (s : ByteArray) (j k : Nat) (h1 : 1 ≤ j - 1 - k) (hlt : j - 1 - k < s.size) (hb : ((s[j - 1 - k].toNat : Int) == 92) = true)
    (H : trail ((s.data.toList.drop 1).take (j - 1)) = k + trail ((s.data.toList.drop 1).take (j - 1 - k))) :
    trail ((s.data.toList.drop 1).take (j - 1)) = (k + 1) + trail ((s.data.toList.drop 1).take (j - 1 - (k + 1))) := by
  have hb' : s[j - 1 - k] = 92 := byte_of_num (n := 92) (by simpa using hb) (by decide)
  obtain ⟨m, hm⟩ : ∃ m, j - 1 - k = m + 1 := ⟨j - 1 - k - 1, by omega⟩
  have hm' : j - 1 - (k + 1) = m := by omega
  rw [H, hm']
  simp only [hm] at hlt hb' ⊢
  rw [trail_take s m hlt, if_pos hb']
  omega
theorem mq_stop (s : ByteArray) (j k : Nat) (h : ¬ 1 ≤ j - 1 - k ∨ ∃ hlt : j - 1 - k < s.size, ((s[j - 1 - k].toNat : Int) == 92) = false)
    (H : trail ((s.data.toList.drop 1).take (j - 1)) = k + trail ((s.data.toList.drop 1).take (j - 1 - k))) :
    trail ((s.data.toList.drop 1).take (j - 1)) = k := by
  rw [H]
  rcases Nat.eq_zero_or_pos (j - 1 - k) with h0 | h0
  · rw [h0]; rfl
  · rcases h with h | ⟨hlt, hb⟩
    · omega
    · obtain ⟨m, hm⟩ : ∃ m, j - 1 - k = m + 1 := ⟨j - 1 - k - 1, by omega⟩
      simp only [hm] at hlt hb ⊢
      rw [trail_take s m hlt, if_neg (fun e => by rw [e] at hb; simp at hb)]
      rfl
theorem mq_even (s : ByteArray) (j k : Nat) (hj1 : 1 ≤ j) (hlt : j < s.size) (h34 : s[j] = 34) (ht : trail ((s.data.toList.drop 1).take (j - 1)) = k) (hk : ((k : Int) % 2 == 0) = true) : closes false (s.data.toList.drop 1) (j - 1) := by
  obtain ⟨m, rfl⟩ : ∃ m, j = m + 1 := ⟨j - 1, by omega⟩
  refine (closes_iff s m hlt).2 ⟨h34, ?_⟩
  rw [show m + 1 - 1 = m from rfl] at ht
  rw [ht]
  have : (k : Int) % 2 = 0 := by simpa using hk
  omega
theorem mq_odd (s : ByteArray) (j k : Nat) (hj1 : 1 ≤ j) (hlt : j < s.size) (ht : trail ((s.data.toList.drop 1).take (j - 1)) = k) (hk : ((k : Int) % 2 == 0) = false) (HN : ∀ i, i + 1 < j → ¬ closes false (s.data.toList.drop 1) i) :
    ∀ i, i + 1 < j + 1 → ¬ closes false (s.data.toList.drop 1) i := by
  intro i hi hc
  by_cases hij : i + 1 < j
  · exact HN i hij hc
  · obtain rfl : i + 1 = j := by omega
    have := (closes_iff s i hlt).1 hc
    rw [show i + 1 - 1 = i from rfl] at ht
    rw [ht] at this
    have h0 : ¬ (k : Int) % 2 = 0 := by simpa using hk
    omega

theorem mq_fin (s : ByteArray) (e : Nat) (he : 1 ≤ e) (H : qs false (s.data.toList.drop 1) = some (us false ((s.data.toList.drop 1).take (e - 1)), (s.data.toList.drop 1).drop (e - 1 + 1))) :
    Ending.returned (.tuple #[.string ⟨(us false (s.data.toList.tail.take (e - 1))).toArray⟩, .string (s.extract (e + 1) s.size), .bool true]) = .returned (quoV (qs false (tl s))) := by
  have h1 : s.data.toList.tail = s.data.toList.drop 1 := by rw [List.drop_one]
  have h2 : s.extract (e + 1) s.size = ⟨((s.data.toList.drop 1).drop (e - 1 + 1)).toArray⟩ := by
    rw [extract_drop, List.drop_drop, show 1 + (e - 1 + 1) = e + 1 from by omega]
  rw [h1]
  exact quo_some H h2

set_option maxRecDepth 100000 in
set_option maxHeartbeats 800000 in
theorem modelQuoted_any (s : ByteArray) (hs : s.size ≤ 1073741824) (h1 : 1 ≤ s.size) (w : World) :
    Calls Tryd.prog 26 #[.string s] w fun e w' => e = .returned (quoV (qs false (tl s))) ∧ Below w.heap.size w w' := by
  go_enter Tryd.func26, Tryd.ntmps26
  go_wp2_with fail
  go_loop [5, 6] (fun ev jv => ∃ j : Nat, 1 ≤ j ∧ j ≤ s.size ∧ jv = .int .i64 j ∧
      ((ev = .int .i64 (-1) ∧ Hid (∀ i, i + 1 < j → ¬ closes false (s.data.toList.drop 1) i)) ∨
       (∃ e : Nat, ev = .int .i64 e ∧ 1 ≤ e ∧ e < s.size ∧ Hid (closes false (s.data.toList.drop 1) (e - 1) ∧ ∀ i, i < e - 1 → ¬ closes false (s.data.toList.drop 1) i))))
    (fun _ jv => s.size - (intOf jv).toNat)
  case atStart => exact ⟨1, Nat.le_refl _, h1, rfl, .inl ⟨rfl, by intro i hi; omega⟩⟩
  case round =>
    obtain ⟨j, hj1, hj, rfl, ⟨rfl, HN⟩ | ⟨e, rfl, he1, he2, HC⟩⟩ := hrel
    · by_cases hlt : j < s.size
      · by_cases hq : ((s[j].toNat : Int) != 34) = true
        · have HN' : Hid (∀ i, i + 1 < j + 1 → ¬ closes false (s.data.toList.drop 1) i) := by
            intro i hi hc
            by_cases hij : i + 1 < j
            · exact HN.out i hij hc
            · have e : i + 1 = j := by omega
              subst e
              have := (closes_iff s i hlt).1 hc
              rw [this.1] at hq
              simp at hq
          clear HN
          go_wp2
          go_round
          case rel => exact ⟨j + 1, by omega, by omega, by go_num, .inl ⟨rfl, HN'⟩⟩
          case measure => simp [intOf]; omega
        · have hq' : ((s[j].toNat : Int) != 34) = false := by simpa using hq
          have HQ : Hid (s[j] = 34) := byte_of_num (n := 34) (by simpa using hq') (by decide)
          clear hq
          go_wp2
          go_loop [7] (fun kv => ∃ k : Nat, k + 1 ≤ j ∧ kv = .int .i64 k ∧ Hid (trail ((s.data.toList.drop 1).take (j - 1)) = k + trail ((s.data.toList.drop 1).take (j - 1 - k)))) (fun kv => j - (intOf kv).toNat)
          case atStart => exact ⟨0, by omega, rfl, by show _ = _; simp⟩
          case round =>
            obtain ⟨k, hk, rfl, HT⟩ := hrel
            by_cases hgo : 1 ≤ j - 1 - k
            · have hix : j - 1 - k < s.size := by omega
              go_wp2
              all_goals first
                | (have hb : ((s[j - 1 - k].toNat : Int) == 92) = true := by assumption
                   go_round
                   case rel => exact ⟨k + 1, by omega, by go_num, mq_step s j k hgo hix hb HT⟩
                   case measure => simp [intOf]; omega)
                | (have hb : ((s[j - 1 - k].toNat : Int) == 92) = false := by assumption
                   have hst := mq_stop s j k (.inr ⟨hix, hb⟩) HT
                   go_round
                   case rel =>
                     refine ⟨j + 1, by omega, by omega, by go_num, ?_⟩
                     first
                       | exact .inr ⟨j, rfl, hj1, hlt, mq_even s j k hj1 hlt HQ.out hst (by assumption), fun i hi => HN.out i (by omega)⟩
                       | exact .inl ⟨rfl, mq_odd s j k hj1 hlt hst (by assumption) HN.out⟩
                   case measure => simp [intOf]; omega)
            · go_wp2
              all_goals
                have hst := mq_stop s j k (.inl hgo) HT
                go_round
                case rel =>
                  refine ⟨j + 1, by omega, by omega, by go_num, ?_⟩
                  first
                    | exact .inr ⟨j, rfl, hj1, hlt, mq_even s j k hj1 hlt HQ.out hst (by assumption), fun i hi => HN.out i (by omega)⟩
                    | exact .inl ⟨rfl, mq_odd s j k hj1 hlt hst (by assumption) HN.out⟩
                case measure => simp [intOf]; omega
      · have HQ : Hid (qs false (s.data.toList.drop 1) = none) := by
          refine qs_open _ _ fun i hc => HN.out i ?_ hc
          have := closes_lt s i hc
          omega
        clear HN
        go_wp2
        go_ret3
        exact ⟨quo_none HQ.out, Below.refl _ _⟩
    · have HQ : Hid (qs false (s.data.toList.drop 1) = some (us false ((s.data.toList.drop 1).take (e - 1)), (s.data.toList.drop 1).drop (e - 1 + 1))) := qs_close _ _ _ HC.out.1 HC.out.2
      clear HC
      by_cases hlt : j < s.size
      all_goals
        go_wp2
        have hwr : IntKind.i64.wrap ((e : Int) + 1) = ((e + 1 : Nat) : Int) := by rw [IntKind.wrap_i64]; omega
        have hk2 : e + 1 ≤ s.size := by omega
        go_region_with (go_at_call 41; refine (unesc_any _ (by simp [ByteArray.size_extract]; omega) _).mono ?_; rintro e w1 ⟨rfl, hb⟩)
        all_goals
          go_wp2
          go_ret3
          exact ⟨mq_fin s e he1 HQ.out, (Below.refl _ _).drew.trans (by assumption)⟩

end Go.Proofs.Qxb6604015aDoor
