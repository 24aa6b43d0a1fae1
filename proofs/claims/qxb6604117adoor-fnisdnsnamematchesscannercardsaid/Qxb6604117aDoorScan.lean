import Derived.Test.Qxb6604117aDoorDns
namespace Go.Proofs.Qxb6604117aDoor
open Go.RowKit

def LdhSays (c : UInt8) (w : World) (e : Ending) (w' : World) : Prop := e = .returned (.bool (ldh c)) ∧ w' = w
def ScanSays (b : Bool) (s : List UInt8) (w : World) (e : Ending) (w' : World) : Prop := e = .returned (.bool (dnsOk b s)) ∧ w' = w

set_option maxRecDepth 100000 in
set_option maxHeartbeats 800000 in
theorem isLDH_any (c : UInt8) (w : World) : Calls Tryd.prog 8 #[.int .u8 (c.toNat : Int)] w fun e w' => LdhSays c w e w' := by
  by_cases h1 : LdhI c.toNat
  · have HL : Hid (ldh c = true) := ldh_yes h1
    unfold LdhI at h1
    by_cases he : c = 45
    · subst he
      go_enter Tryd.func8, Tryd.ntmps8
      go_wp2
      go_ret
      exact ⟨show Ending.returned (.bool true) = .returned (.bool (ldh 45)) by rw [HL.out], rfl⟩
    · have he' := ne45 he
      have he1 : (c.toNat : Int) ≠ 45 := by simpa using he'
      go_enter Tryd.func8, Tryd.ntmps8
      go_wp2
      all_goals go_ret
      all_goals exact ⟨show Ending.returned (.bool true) = .returned (.bool (ldh c)) by rw [HL.out], rfl⟩
  · have HL : Hid (ldh c = false) := ldh_no h1
    unfold LdhI at h1
    have he' : ((c.toNat : Int) == 45) = false := by simp; omega
    go_enter Tryd.func8, Tryd.ntmps8
    go_wp2
    all_goals go_ret
    all_goals exact ⟨show Ending.returned (.bool false) = .returned (.bool (ldh c)) by rw [HL.out], rfl⟩

theorem strip_no {s : ByteArray} (h : ¬ (2 ≤ s.size ∧ s.data.toList[0]? = some 42 ∧ s.data.toList[1]? = some 46)) : strip true s.data.toList = s.data.toList := by
  unfold strip Lib.trimPrefix Lib.hasPrefix
  have hl : s.data.toList.length = s.size := by simp
  match hs : s.data.toList with
  | [] => rfl
  | [a] => simp [List.isPrefixOf]
  | a :: b :: t =>
    rw [hs] at h hl
    have : ¬ (a = 42 ∧ b = 46) := fun e => h ⟨by simp at hl; omega, by simp [e.1], by simp [e.2]⟩
    have hp : List.isPrefixOf [42, 46] (a :: b :: t) = false := by
      simp only [List.isPrefixOf, Bool.and_true]
      rw [Bool.eq_false_iff]
      intro e
      simp only [Bool.and_eq_true, beq_iff_eq] at e
      exact this ⟨e.1.symm, e.2.symm⟩
    simp [hp]
theorem strip_yes {s : ByteArray} (h : s.data.toList[0]? = some 42 ∧ s.data.toList[1]? = some 46) : strip true s.data.toList = s.data.toList.drop 2 := by
  unfold strip Lib.trimPrefix Lib.hasPrefix
  match hs : s.data.toList with
  | [] => rw [hs] at h; simp at h
  | [a] => rw [hs] at h; simp at h
  | a :: b :: t =>
    rw [hs] at h
    simp only [List.getElem?_cons_zero, List.getElem?_cons_succ, Option.some.injEq] at h
    obtain ⟨rfl, rfl⟩ := h
    simp [List.isPrefixOf]
theorem says_long {b : Bool} {s : ByteArray} {st : Nat} (hT : strip b s.data.toList = s.data.toList.drop st) (h : 253 < s.size - st) : dnsOk b s.data.toList = false := by
  have : ¬ (s.data.toList.drop st).length ≤ 253 := by simp; omega
  rw [dnsOk, hT, decide_eq_false this]; rfl
theorem says_scan {b : Bool} {s : ByteArray} {st : Nat} {r : Bool} (hT : strip b s.data.toList = s.data.toList.drop st) (h : ¬ 253 < s.size - st) (hr : scan 0 46 (s.data.toList.drop st) = r) : dnsOk b s.data.toList = r := by
  have : (s.data.toList.drop st).length ≤ 253 := by simp; omega
  rw [dnsOk, hT, decide_eq_true this, ← scan_all, hr]; rfl
theorem drop_at (s : ByteArray) (k : Nat) (h : k < s.size) : s.data.toList.drop k = s[k] :: s.data.toList.drop (k + 1) := by
  have h' : k < s.data.toList.length := by simpa using h
  rw [List.drop_eq_getElem_cons h']; rfl
theorem neU {c d : UInt8} (n : Int) (hd : (d.toNat : Int) = n) (h : c ≠ d) : ((c.toNat : Int) == n) = false := by
  have : c.toNat ≠ d.toNat := fun e => h (UInt8.toNat_inj.1 e)
  simp; omega

set_option maxRecDepth 100000 in
set_option maxHeartbeats 1600000 in
theorem scan_any (s : ByteArray) (b : Bool) (hs : s.size ≤ 1048576) (w : World) :
    Calls Tryd.prog 6 #[.string s, .bool b] w fun e w' => ScanSays b s.data.toList w e w' := by
  go_enter Tryd.func6, Tryd.ntmps6
  cases b
  case' false =>
    obtain ⟨st, hst⟩ : ∃ st : Nat, st = 0 := ⟨0, rfl⟩
    have hle : st ≤ s.size := by omega
    have HT : Hid (strip false s.data.toList = s.data.toList.drop st) := by rw [hst]; rfl
  case' true =>
    by_cases h2 : 2 ≤ s.size
    case' neg =>
      obtain ⟨st, hst⟩ : ∃ st : Nat, st = 0 := ⟨0, rfl⟩
      have hle : st ≤ s.size := by omega
      have HT : Hid (strip true s.data.toList = s.data.toList.drop st) := by rw [hst]; exact strip_no (fun h => h2 h.1)
    case' pos =>
      by_cases h0 : s[0] = 42
      case' neg =>
        have h0' := neU 42 rfl h0
        obtain ⟨st, hst⟩ : ∃ st : Nat, st = 0 := ⟨0, rfl⟩
        have hle : st ≤ s.size := by omega
        have HT : Hid (strip true s.data.toList = s.data.toList.drop st) := by rw [hst]; exact strip_no (fun h => h0 (by have := h.2.1; rw [at_data s 0 (by omega)] at this; simpa using this))
      case' pos =>
        have h0' : ((s[0].toNat : Int) == 42) = true := by rw [h0]; rfl
        by_cases h1 : s[1] = 46
        case' neg =>
          have h1' := neU 46 rfl h1
          obtain ⟨st, hst⟩ : ∃ st : Nat, st = 0 := ⟨0, rfl⟩
          have hle : st ≤ s.size := by omega
          have HT : Hid (strip true s.data.toList = s.data.toList.drop st) := by rw [hst]; exact strip_no (fun h => h1 (by have := h.2.2; rw [at_data s 1 (by omega)] at this; simpa using this))
        case' pos =>
          have h1' : ((s[1].toNat : Int) == 46) = true := by rw [h1]; rfl
          obtain ⟨st, hst⟩ : ∃ st : Nat, st = 2 := ⟨2, rfl⟩
          have hle : st ≤ s.size := by omega
          have HT : Hid (strip true s.data.toList = s.data.toList.drop st) := by rw [hst]; exact strip_yes ⟨by rw [at_data s 0 (by omega), h0], by rw [at_data s 1 (by omega), h1]⟩
  all_goals (
    by_cases hlen : 253 < s.size - st
    · go_wp2
      all_goals go_ret
      all_goals exact ⟨show Ending.returned (.bool false) = .returned (.bool _) by rw [says_long HT.out hlen], rfl⟩
    · go_wp2
      go_loop [6, 7, 8] (fun nv pv iv => ∃ (k m : Nat) (c : UInt8), st ≤ k ∧ k ≤ s.size ∧ nv = .int .i64 m ∧ pv = .int .u8 (c.toNat : Int) ∧ iv = .int .i64 k ∧ m ≤ 63 ∧ Hid (scan 0 46 (s.data.toList.drop st) = scan m c (s.data.toList.drop k))) (fun _ _ iv => s.size - (intOf iv).toNat)
      case atStart => exact ⟨st, 0, 46, Nat.le_refl _, hle, rfl, rfl, by rw [hst]; rfl, by omega, rfl⟩
      case round =>
        obtain ⟨k, m, c, hk0, hk, rfl, rfl, rfl, hm, HS⟩ := hrel
        by_cases hlt : k < s.size
        · have hdr := drop_at s k hlt
          by_cases hx : s[k] = 46
          · have hx' : ((s[k].toNat : Int) == 46) = true := by rw [hx]; rfl
            by_cases hm0 : m = 0
            · subst hm0
              go_wp2
              all_goals go_ret
              all_goals exact ⟨show Ending.returned (.bool false) = .returned (.bool _) by rw [says_scan HT.out hlen HS.out, hdr, hx]; simp [scan], rfl⟩
            · have hm' : ((m : Int) == 0) = false := by simp; omega
              by_cases hc : c = 45
              · have hc' : ((c.toNat : Int) == 45) = true := by rw [hc]; rfl
                go_wp2
                all_goals go_ret
                all_goals exact ⟨show Ending.returned (.bool false) = .returned (.bool _) by rw [says_scan HT.out hlen HS.out, hdr, hx]; simp [scan, hc], rfl⟩
              · have hc' := ne45 hc
                go_wp2
                go_round
                case rel => exact ⟨k + 1, 0, 46, by omega, by omega, rfl, rfl, by go_num, by omega, by rw [HS.out, hdr, hx]; simp [scan, hc, hm0, Hid]⟩
                case measure => simp [intOf]; omega
          · have hx' := neU 46 rfl hx
            by_cases hl : ldh s[k] = false
            · go_wp2_with fail
              refine (isLDH_any s[k] w).mono ?_
              rintro e w' ⟨he, rfl⟩
              rw [hl] at he
              subst he
              go_wp2
              all_goals go_ret
              all_goals exact ⟨show Ending.returned (.bool false) = .returned (.bool _) by rw [says_scan HT.out hlen HS.out, hdr]; simp [scan, hx, hl], rfl⟩
            · have hl' : ldh s[k] = true := by simpa using hl
              go_wp2_with fail
              refine (isLDH_any s[k] w).mono ?_
              rintro e w' ⟨he, rfl⟩
              rw [hl'] at he
              subst he
              by_cases hh : s[k] = 45 ∧ m = 0
              · obtain ⟨hh1, hh2⟩ := hh
                have hh1' : ((s[k].toNat : Int) == 45) = true := by rw [hh1]; rfl
                subst hh2
                go_wp2
                all_goals go_ret
                all_goals exact ⟨show Ending.returned (.bool false) = .returned (.bool _) by rw [says_scan HT.out hlen HS.out, hdr]; simp [scan, hh1], rfl⟩
              · have hg : (((s[k].toNat : Int) == 45) = false) ∨ ((((s[k].toNat : Int) == 45) = true) ∧ ((m : Int) == 0) = false) := by
                  by_cases h45 : s[k] = 45
                  · exact .inr ⟨by rw [h45]; rfl, by have : m ≠ 0 := fun e => hh ⟨h45, e⟩
                                                     simp; omega⟩
                  · exact .inl (ne45 h45)
                by_cases h63 : 63 < m + 1
                · have HD : Hid (scan m c (s.data.toList.drop k) = false) := by rw [hdr]; simp only [Hid, scan, if_neg hx, if_neg hl, if_neg hh, if_pos h63]
                  rcases hg with hg | ⟨hg, hg2⟩
                  all_goals (
                    go_wp2
                    all_goals go_ret
                    all_goals exact ⟨show Ending.returned (.bool false) = .returned (.bool _) by rw [says_scan HT.out hlen HS.out, HD.out], rfl⟩)
                · have HD : Hid (scan 0 46 (s.data.toList.drop st) = scan (m + 1) s[k] (s.data.toList.drop (k + 1))) := by rw [HS.out, hdr]; simp only [Hid, scan, if_neg hx, if_neg hl, if_neg hh, if_neg h63]
                  rcases hg with hg | ⟨hg, hg2⟩
                  all_goals (
                    go_wp2
                    go_round
                    case rel => exact ⟨k + 1, m + 1, s[k], by omega, by omega, by go_num, rfl, by go_num, by omega, HD⟩
                    case measure => simp [intOf]; omega)
        · obtain rfl : k = s.size := by omega
          have HD : Hid (scan 0 46 (s.data.toList.drop st) = (decide (0 < m) && c != 45)) := by
            rw [HS.out, List.drop_eq_nil_of_le (by simp)]; rfl
          by_cases hm0 : 0 < m
          · have hm1 : decide ((0 : Int) < (m : Int)) = true := by simp; omega
            by_cases hc : c = 45
            · have hc' : ((c.toNat : Int) == 45) = true := by rw [hc]; rfl
              go_wp2
              all_goals go_ret
              all_goals exact ⟨show Ending.returned (.bool false) = .returned (.bool _) by rw [says_scan HT.out hlen HD.out, hc]; simp, rfl⟩
            · have hc2 : ((c.toNat : Int) != 45) = true := by rw [bne, ne45 hc]; rfl
              go_wp2
              all_goals go_ret
              all_goals exact ⟨show Ending.returned (.bool true) = .returned (.bool _) by rw [says_scan HT.out hlen HD.out]; simp [hm0, hc], rfl⟩
          · obtain rfl : m = 0 := by omega
            go_wp2
            all_goals go_ret
            all_goals exact ⟨show Ending.returned (.bool false) = .returned (.bool _) by rw [says_scan HT.out hlen HD.out]; simp, rfl⟩)
end Go.Proofs.Qxb6604117aDoor
