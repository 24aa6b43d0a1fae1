import Derived.Test.Qxb6604015aDoorRc
import Derived.Test.Qxb6604015aDoorTok
namespace Go.Proofs.Qxb6604015aDoor
open Go.RowKit

/-- It answers a bool; true only where p. -/
def Says (p : Prop) (e : Ending) : Prop := ∃ b, e = .returned (.bool b) ∧ (b = true → p)
theorem says_yes {p : Prop} (h : p) : Says p (.returned (.bool true)) := ⟨true, rfl, fun _ => h⟩
theorem says_no (p : Prop) : Says p (.returned (.bool false)) := ⟨false, rfl, fun h => by cases h⟩

def AllTok (s : ByteArray) : Prop := ∀ c ∈ s.data.toList, tokB c = true

set_option maxRecDepth 100000 in
set_option maxHeartbeats 800000 in
theorem allTok_any (s : ByteArray) (hs : s.size ≤ 1073741824) (w : World) :
    Calls Tryd.prog 18 #[.string s] w fun e w' => Says (AllTok s) e ∧ w' = w := by
  go_enter Tryd.func18, Tryd.ntmps18
  go_wp2_with fail
  go_loop [3] (fun iv => ∃ k : Nat, k ≤ s.size ∧ iv = .int .i64 k ∧ Hid (∀ c ∈ s.data.toList.take k, tokB c = true)) (fun iv => s.size - (intOf iv).toNat)
  case atStart => exact ⟨0, Nat.zero_le _, rfl, by show ∀ c ∈ _, _; simp⟩
  case round =>
    obtain ⟨k, hk, rfl, HK⟩ := hrel
    by_cases hlt : k < s.size
    · have hb : s[k].toNat < 256 := UInt8.toNat_lt _
      cases ht : tokN (s[k].toNat : Int) with
      | true =>
        have HT : Hid (tokN (s[k].toNat : Int) = true) := ht
        have c := isTok_any (s[k].toNat : Int) (by omega) (by omega) w
        rw [ht] at c
        clear ht
        go_wp2_with (go_at_call 27; refine c.mono ?_; rintro e w' ⟨rfl, rfl⟩)
        go_round
        case rel =>
          refine ⟨k + 1, by omega, by go_num, ?_⟩
          show ∀ c ∈ _, _
          rw [List.take_add_one, cell_idx s k hlt]
          intro c hc
          rcases List.mem_append.1 hc with h | h
          · exact HK.out c h
          · simp at h
            subst h
            exact HT.out
        case measure => simp [intOf]; omega
      | false =>
        have c := isTok_any (s[k].toNat : Int) (by omega) (by omega) w
        rw [ht] at c
        clear ht
        go_wp2_with (go_at_call 27; refine c.mono ?_; rintro e w' ⟨rfl, rfl⟩)
        go_ret
        exact ⟨says_no _, rfl⟩
    · have HF : Hid (∀ c ∈ s.data.toList, tokB c = true) := by
        have := HK.out
        rw [List.take_of_length_le (by rw [size_len]; omega)] at this
        exact this
      go_wp2
      go_ret
      exact ⟨says_yes HF.out, rfl⟩

/-- What the premise says where it says yes. -/
def Prem (xs ys : List ByteArray) (bs : List Bool) (pad : ByteArray) : Prop :=
  ys.length = xs.length ∧ bs.length = xs.length ∧ (∀ c ∈ pad.data.toList, wsB c = true) ∧ ∀ d ∈ items xs ys bs, ItemOk d

theorem item_step {T T' : List Item} {d : Item} (h : ∀ x ∈ T, ItemOk x) (e : T' = T ++ [d]) (hd : ItemOk d) : Hid (∀ x ∈ T', ItemOk x) := by
  show ∀ x ∈ T', _
  rw [e]
  intro x hx
  rcases List.mem_append.1 hx with h' | h'
  · exact h x h'
  · rw [List.mem_singleton.1 h']
    exact hd

set_option maxRecDepth 100000 in
set_option maxHeartbeats 1600000 in
theorem premise_any (xs ys : List ByteArray) (bs : List Bool) (pad : ByteArray) (v1 v2 v3 : Value) (w : World) (h1 : VS w v1 xs) (h2 : VS w v2 ys) (h3 : VB w v3 bs)
    (hxl : xs.length ≤ 65536) (hpl : pad.size ≤ 1048576) (hxs : ∀ k (h : k < xs.length), xs[k].size ≤ 1048576) (hys : ∀ k (h : k < ys.length), ys[k].size ≤ 1048576) :
    Calls Tryd.prog 11 #[v1, v2, v3, .string pad] w fun e w' => Says (Prem xs ys bs pad) e ∧ w' = w := by
  obtain ⟨ao, cap, rfl, hc⟩ := h1
  have HX : Hid (∀ k (h : k < xs.length), ∃ b off, ao = some ⟨b, off, none⟩ ∧ b < w.heap.size ∧ w.cell? ⟨b, off + k, none⟩ = some (.string xs[k])) := hc
  obtain ⟨ao2, cap2, rfl, hc2⟩ := h2
  have HY : Hid (∀ k (h : k < ys.length), ∃ b off, ao2 = some ⟨b, off, none⟩ ∧ b < w.heap.size ∧ w.cell? ⟨b, off + k, none⟩ = some (.string ys[k])) := hc2
  obtain ⟨ao3, cap3, rfl, hc3⟩ := h3
  have HZ : Hid (∀ k (h : k < bs.length), ∃ b off, ao3 = some ⟨b, off, none⟩ ∧ b < w.heap.size ∧ w.cell? ⟨b, off + k, none⟩ = some (.bool bs[k])) := hc3
  have HXS : Hid (∀ k (h : k < xs.length), xs[k].size ≤ 1048576) := hxs
  have HYS : Hid (∀ k (h : k < ys.length), ys[k].size ≤ 1048576) := hys
  clear hc hc2 hc3 hxs hys
  by_cases hl1 : ys.length = xs.length
  · by_cases hl2 : bs.length = xs.length
    · have HL1 : Hid (ys.length = xs.length) := hl1
      have HL2 : Hid (bs.length = xs.length) := hl2
      have e1 : ((ys.length : Int) != (xs.length : Int)) = false := by simp [hl1]
      have e2 : ((bs.length : Int) != (xs.length : Int)) = false := by simp [hl2]
      clear hl1 hl2
      go_enter Tryd.func11, Tryd.ntmps11
      go_wp2
      go_loop [9] (fun iv => ∃ k : Nat, k ≤ pad.size ∧ iv = .int .i64 k ∧ Hid (∀ c ∈ pad.data.toList.take k, wsB c = true)) (fun iv => pad.size - (intOf iv).toNat)
      case atStart => exact ⟨0, Nat.zero_le _, rfl, by show ∀ c ∈ _, _; simp⟩
      case round =>
        obtain ⟨k, hk, rfl, HK⟩ := hrel
        by_cases hlt : k < pad.size
        · by_cases hws : wsB pad[k] = true
          · have HK' : Hid (∀ c ∈ pad.data.toList.take (k + 1), wsB c = true) := by
              show ∀ c ∈ _, _
              rw [List.take_add_one, cell_idx pad k hlt]
              intro c hc
              rcases List.mem_append.1 hc with h | h
              · exact HK.out c h
              · simp at h
                subst h
                exact hws
            have hcs : ((pad[k].toNat : Int) != 32) = false ∨ (((pad[k].toNat : Int) != 32) = true ∧ ((pad[k].toNat : Int) != 9) = false) := by
              have : pad[k] = 32 ∨ pad[k] = 9 := by simpa [wsB] using hws
              rcases this with h | h
              · exact .inl (by rw [h]; rfl)
              · exact .inr ⟨by rw [h]; rfl, by rw [h]; rfl⟩
            clear HK hws
            rcases hcs with h32 | ⟨h32, h9⟩
            all_goals
              go_wp2
              go_round
              case rel => exact ⟨k + 1, by omega, by go_num, HK'⟩
              case measure => simp [intOf]; omega
          · have h32 : ((pad[k].toNat : Int) != 32) = true := by
              by_cases h : pad[k] = 32
              · rw [h] at hws; exact absurd rfl hws
              · have := byte_is pad[k] 32
                simp only [bne, show ((32 : UInt8).toNat : Int) = 32 from rfl] at this ⊢
                rw [this]
                simpa using h
            have h9 : ((pad[k].toNat : Int) != 9) = true := by
              by_cases h : pad[k] = 9
              · rw [h] at hws; exact absurd rfl hws
              · have := byte_is pad[k] 9
                simp only [bne, show ((9 : UInt8).toNat : Int) = 9 from rfl] at this ⊢
                rw [this]
                simpa using h
            clear hws HK
            go_wp2
            go_ret
            exact ⟨says_no _, rfl⟩
        · have HP : Hid (∀ c ∈ pad.data.toList, wsB c = true) := by
            have := HK.out
            rw [List.take_of_length_le (by rw [size_len]; omega)] at this
            exact this
          clear HK
          go_wp2
          go_loop [10] (fun iv => ∃ k : Nat, k ≤ xs.length ∧ iv = .int .i64 k ∧ Hid (∀ d ∈ (items xs ys bs).take k, ItemOk d)) (fun iv => xs.length - (intOf iv).toNat)
          case atStart => exact ⟨0, Nat.zero_le _, rfl, by show ∀ c ∈ _, _; simp⟩
          case round =>
            obtain ⟨j, hj, rfl, HJ⟩ := hrel
            by_cases hjl : j < xs.length
            · have hky : j < ys.length := by rw [HL1.out]; exact hjl
              have hkb : j < bs.length := by rw [HL2.out]; exact hjl
              obtain ⟨b1, o1, rfl, hbl1, hcell1⟩ := HX.out j hjl
              obtain ⟨b2, o2, rfl, hbl2, hcell2⟩ := HY.out j hky
              obtain ⟨b3, o3, rfl, hbl3, hcell3⟩ := HZ.out j hkb
              have HT := items_take xs ys bs j hjl hky hkb
              have hx1 := HXS.out j hjl
              have hy1 := HYS.out j hky
              generalize xs[j] = x at *
              generalize ys[j] = y at *
              generalize bs[j] = q at *
              have HT' : Hid ((items xs ys bs).take (j + 1) = (items xs ys bs).take j ++ [(x.data.toList, y.data.toList, q)]) := HT
              clear HT
              by_cases hx0 : x.size = 0
              · have he := empty_y hx0
                go_wp2
                go_ret
                exact ⟨says_no _, rfl⟩
              · have he := empty_n (by omega : 0 < x.size)
                go_wp2_with fail
                refine (allTok_any x (by omega) _).mono ?_
                rintro e w' ⟨⟨bx, rfl, hbx⟩, rfl⟩
                cases bx with
                | false =>
                  clear hbx
                  go_wp2
                  go_ret
                  exact ⟨says_no _, rfl⟩
                | true =>
                  have HBX : Hid (∀ c ∈ x.data.toList, tokB c = true) := hbx rfl
                  clear hbx
                  cases q with
                  | true =>
                    go_wp2
                    go_round
                    case rel => exact ⟨j + 1, by omega, by go_num, item_step HJ.out HT'.out ⟨fun h => hx0 (size_zero h), HBX.out, fun h => by cases h⟩⟩
                    case measure => simp [intOf]; omega
                  | false =>
                    go_wp2_with fail
                    refine (allTok_any y (by omega) _).mono ?_
                    rintro e w' ⟨⟨bY, rfl, hby⟩, rfl⟩
                    cases bY with
                    | false =>
                      clear hby
                      go_wp2
                      go_ret
                      exact ⟨says_no _, rfl⟩
                    | true =>
                      have HBY : Hid (∀ c ∈ y.data.toList, tokB c = true) := hby rfl
                      clear hby
                      go_wp2
                      go_round
                      case rel => exact ⟨j + 1, by omega, by go_num, item_step HJ.out HT'.out ⟨fun h => hx0 (size_zero h), HBX.out, fun _ => HBY.out⟩⟩
                      case measure => simp [intOf]; omega
            · have HF : Hid (Prem xs ys bs pad) := by
                refine ⟨HL1.out, HL2.out, HP.out, ?_⟩
                have := HJ.out
                rw [List.take_of_length_le (by rw [items_length xs ys bs HL1.out HL2.out]; omega)] at this
                exact this
              go_wp2
              go_ret
              exact ⟨says_yes HF.out, rfl⟩
    · have e1 : ((ys.length : Int) != (xs.length : Int)) = false := by simp [hl1]
      have e2 : ((bs.length : Int) != (xs.length : Int)) = true := by simp; omega
      clear hl1 hl2
      go_enter Tryd.func11, Tryd.ntmps11
      go_wp2
      go_ret
      exact ⟨says_no _, rfl⟩
  · have e1 : ((ys.length : Int) != (xs.length : Int)) = true := by simp; omega
    clear hl1
    go_enter Tryd.func11, Tryd.ntmps11
    go_wp2
    go_ret
    exact ⟨says_no _, rfl⟩

end Go.Proofs.Qxb6604015aDoor
