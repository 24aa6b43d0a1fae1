import Derived.Test.Qxb6604015aDoorRd
import Derived.Test.Qxb6604015aDoorTop
namespace Go.Proofs.Qxb6604015aDoor
open Go.RowKit

theorem size_le_tot (xs : List ByteArray) (k : Nat) (h : k < xs.length) : xs[k].size ≤ tot xs := by
  have h1 := tot_take xs k h
  have h2 := congrArg tot (List.take_append_drop (k + 1) xs)
  rw [tot_append] at h2
  omega

theorem items_sum (p : Nat) (xs ys : List ByteArray) (bs : List Bool) (h1 : ys.length = xs.length) (h2 : bs.length = xs.length) :
    ((items xs ys bs).map fun d => 2 * p + d.1.length + 2 * d.2.1.length + 4).sum = xs.length * (2 * p + 4) + tot xs + 2 * tot ys := by
  induction xs generalizing ys bs with
  | nil =>
    have : ys = [] := List.eq_nil_of_length_eq_zero h1
    subst this
    simp [items, tot]
  | cons x xs ih =>
    match ys, bs, h1, h2 with
    | y :: ys, b :: bs, h1, h2 =>
      have := ih ys bs (by simpa using h1) (by simpa using h2)
      have e1 : items (x :: xs) (y :: ys) (b :: bs) = (x.data.toList, y.data.toList, b) :: items xs ys bs := rfl
      have e2 : tot (x :: xs) = x.size + tot xs := by simp [tot]
      have e3 : tot (y :: ys) = y.size + tot ys := by simp [tot]
      rw [e1, List.map_cons, List.sum_cons, this, e2, e3, List.length_cons, Nat.add_mul]
      simp only [size_len]
      omega

/-- The rendered line is not long. -/
theorem line_small (pad : ByteArray) (xs ys : List ByteArray) (bs : List Bool) (h1 : ys.length = xs.length) (h2 : bs.length = xs.length)
    (hs : 16 * xs.length + tot xs + (16 * ys.length + tot ys) + bs.length + pad.size ≤ 1048576) (hq : xs.length + 1 ≤ 1048576 / (pad.size + 1)) :
    (renderAll pad.data.toList (items xs ys bs)).length + pad.size ≤ 67108864 := by
  have a1 := renderAll_length pad.data.toList (items xs ys bs)
  rw [size_len, items_sum pad.size xs ys bs h1 h2] at a1
  have a2 : (xs.length + 1) * (pad.size + 1) ≤ 1048576 := (Nat.le_div_iff_mul_le (by omega)).1 hq
  have e1 : (xs.length + 1) * (pad.size + 1) = xs.length * pad.size + xs.length + pad.size + 1 := by
    rw [Nat.add_mul, Nat.mul_add]; omega
  have e2 : xs.length * (2 * pad.size + 4) = 2 * (xs.length * pad.size) + 4 * xs.length := by
    rw [Nat.mul_add, Nat.mul_left_comm]; omega
  omega

/-- The directives that are wanted. -/
def want (xs ys : List ByteArray) (bs : List Bool) : List (Bs × Bs) := (items xs ys bs).map fun d => (low d.1, d.2.1)
theorem want_length (xs ys : List ByteArray) (bs : List Bool) (h1 : ys.length = xs.length) (h2 : bs.length = xs.length) : (want xs ys bs).length = xs.length := by
  simp [want, items_length xs ys bs h1 h2]
theorem want_take (xs ys : List ByteArray) (bs : List Bool) (k : Nat) (h : k < xs.length) (h1 : k < ys.length) (h2 : k < bs.length) : (want xs ys bs).take (k + 1) = (want xs ys bs).take k ++ [(low xs[k].data.toList, ys[k].data.toList)] := by
  unfold want
  rw [← List.map_take, ← List.map_take, items_take xs ys bs k h h1 h2]
  simp

def Done (w : World) (e : Ending) (w' : World) : Prop := e = .returned (.bool true) ∧ Below w.heap.size w w'

set_option maxRecDepth 100000 in
set_option maxHeartbeats 3200000 in
/-- THE LAW, walked: it answers true, and nothing old has turned. -/
theorem render_any (xs ys : List ByteArray) (bs : List Bool) (pad : ByteArray) (v1 v2 v3 : Value) (w : World) (h1 : VS w v1 xs) (h2 : VS w v2 ys) (h3 : VB w v3 bs) :
    Calls Tryd.prog 4 #[v1, v2, v3, .string pad] w fun e w' => Done w e w' := by
  obtain ⟨i9, hi9, hb0, hb1, hb2⟩ := info_parts Tryd.info9
  obtain ⟨ao, cap, rfl, hc⟩ := h1
  have HX : VS w (.slice ao xs.length cap) xs := ⟨ao, cap, rfl, hc⟩
  obtain ⟨ao2, cap2, rfl, hc2⟩ := h2
  have HY : VS w (.slice ao2 ys.length cap2) ys := ⟨ao2, cap2, rfl, hc2⟩
  obtain ⟨ao3, cap3, rfl, hc3⟩ := h3
  have HZ : VB w (.slice ao3 bs.length cap3) bs := ⟨ao3, cap3, rfl, hc3⟩
  clear hc hc2 hc3
  go_enter Tryd.func4, Tryd.ntmps4
  go_wp2_with fail
  refine (zzBytes_any xs ys bs pad _ _ _ _ HX HY HZ).mono ?_
  rintro e w' ⟨⟨b, rfl⟩, hw⟩
  subst hw
  cases b with
  | false =>
    go_wp2
    go_ret
    exact ⟨rfl, Below.refl _ _⟩
  | true =>
    by_cases hlx : xs.length ≤ 65536 ∧ ys.length ≤ 65536 ∧ bs.length ≤ 65536 ∧ pad.size ≤ 1048576
    · obtain ⟨hlx, hly, hlz, hlp⟩ := hlx
      go_wp2_with fail
      refine (strsBytes_any xs _ _ HX).mono ?_
      rintro e w1 ⟨zx, rfl, hw, hzx⟩
      subst hw
      have hzx1 := hzx.1
      have hzx2 := hzx.2.1
      go_wp2_with fail
      refine (strsBytes_any ys _ _ HY).mono ?_
      rintro e w2 ⟨zy, rfl, hw, hzy⟩
      subst hw
      have hzy1 := hzy.1
      have hzy2 := hzy.2.1
      by_cases hsum : zx + zy + bs.length + pad.size ≤ 1048576
      · have cx := hzx.2.2 (by omega)
        have cy := hzy.2.2 (by omega)
        have HS : Hid (16 * xs.length + tot xs + (16 * ys.length + tot ys) + bs.length + pad.size ≤ 1048576) := by show _ ≤ _; omega
        clear hzx hzy cx cy
        have hcast : ((1048576 / (pad.size + 1) : Nat) : Int) = (1048576 : Int) / ((pad.size : Int) + 1) := by
          rw [Int.natCast_ediv]
          rfl
        by_cases hq : xs.length + 1 ≤ 1048576 / (pad.size + 1)
        · have hqi : (xs.length : Int) + 1 ≤ 1048576 / ((pad.size : Int) + 1) := by omega
          have HQ : Hid (xs.length + 1 ≤ 1048576 / (pad.size + 1)) := hq
          have HXS : Hid (∀ k (h : k < xs.length), xs[k].size ≤ 1048576) := fun k h => by have := size_le_tot xs k h; have := HS.out; omega
          have HYS : Hid (∀ k (h : k < ys.length), ys[k].size ≤ 1048576) := fun k h => by have := size_le_tot ys k h; have := HS.out; omega
          clear hcast hq
          go_wp2_with fail
          refine (premise_any xs ys bs pad _ _ _ _ HX HY HZ hlx hlp HXS.out HYS.out).mono ?_
          rintro e w3 ⟨⟨b, rfl, hprem⟩, hw⟩
          subst hw
          cases b with
          | false =>
            clear hprem
            go_wp2
            go_ret
            exact ⟨rfl, Below.refl _ _⟩
          | true =>
            obtain ⟨hl1, hl2, hpad, hok⟩ := hprem rfl
            have HL1 : Hid (ys.length = xs.length) := hl1
            have HL2 : Hid (bs.length = xs.length) := hl2
            have HLS := line_small pad xs ys bs hl1 hl2 HS.out HQ.out
            have HLS' : Hid ((renderAll pad.data.toList (items xs ys bs)).length + pad.size ≤ 67108864) := HLS
            have HSA : Hid (SA (44 :: (renderAll pad.data.toList (items xs ys bs) ++ pad.data.toList)) = some (want xs ys bs)) := SA_render pad.data.toList (items xs ys bs) hpad hok
            clear hprem hl1 hl2 hpad hok HLS hqi HS HQ
            go_wp2_with fail
            refine (cloneStrs_any xs hlx _ _ HX).mono ?_
            rintro e wa ⟨va, rfl, hva, hba⟩
            go_wp2_with fail
            refine (cloneStrs_any ys hly _ _ (HY.below hba)).mono ?_
            rintro e wb ⟨vb, rfl, hvb, hbb⟩
            have hva2 := hva.below hbb
            have hbb2 := hba.trans (hbb.mono hba.size)
            go_wp2_with fail
            refine (cloneBools_any bs hlz _ _ (HZ.below hbb2)).mono ?_
            rintro e wc ⟨vc, rfl, hvc, hbc⟩
            have hva3 := hva2.below hbc
            have hvb3 := hvb.below hbc
            have hbc2 := hbb2.trans (hbc.mono hbb2.size)
            clear hva hva2 hvb hba hbb hbb2 hbc HX HY HZ
            go_wp2_with fail
            refine (renderLine_any xs ys bs pad va vb vc _ hva3 hvb3 hvc HL1.out HL2.out hlx HYS.out HLS'.out).mono ?_
            rintro e wd ⟨vd, rfl, hod, hbd⟩
            obtain ⟨L, hL⟩ : ∃ L, L = 44 :: (renderAll pad.data.toList (items xs ys bs) ++ pad.data.toList) := ⟨_, rfl⟩
            rw [← hL] at hod
            have HSA' : Hid (SA L = some (want xs ys bs)) := by rw [hL]; exact HSA.out
            have hLs : L.length ≤ 1073741824 := by
              have := HLS'.out
              rw [hL, List.length_cons, List.length_append, size_len]
              omega
            clear hL HSA
            have hva4 := hva3.below hbd
            have hvb4 := hvb3.below hbd
            have hbd2 := hbc2.trans (hbd.mono hbc2.size)
            have hcv := run_string_own (P := Tryd.prog) (src := 32) (dst := 9) hod Tryd.underlying32 Tryd.underlying5 Tryd.underlying9
            clear hva3 hvb3 hvc hbc2 hbd
            go_wp2_with fail
            refine (zz_any ⟨L.toArray⟩ hLs _).mono ?_
            rintro e we (⟨ho, rfl, _⟩ | ⟨ds, vn, vm, ho, rfl, hT⟩)
            · have : SA L = none := ho
              rw [HSA'.out] at this
              cases this
            · have ho' : SA L = some ds := ho
              rw [HSA'.out] at ho'
              obtain rfl : want xs ys bs = ds := by simpa using ho'
              clear ho ho' hcv hod HSA'
              have hva5 := hva4.below hT.below
              have hvb5 := hvb4.below hT.below
              obtain ⟨aa, ca, rfl, hca⟩ := hva5
              obtain ⟨ab, cb, rfl, hcb⟩ := hvb5
              have HA : Hid (∀ k (h : k < xs.length), ∃ b off, aa = some ⟨b, off, none⟩ ∧ b < we.heap.size ∧ we.cell? ⟨b, off + k, none⟩ = some (.string xs[k])) := hca
              have HB : Hid (∀ k (h : k < ys.length), ∃ b off, ab = some ⟨b, off, none⟩ ∧ b < we.heap.size ∧ we.cell? ⟨b, off + k, none⟩ = some (.string ys[k])) := hcb
              clear hca hcb hva4 hvb4
              go_wp2
              go_loopw [13, 14, 15] (fun vn' vm' iv wr => ∃ k : Nat, k ≤ xs.length ∧ iv = .int .i64 k ∧ TwoRows we.heap.size we wr vn' vm' ((want xs ys bs).take k)) (fun _ _ iv _ => xs.length - (intOf iv).toNat)
              case atStart => exact ⟨0, Nat.zero_le _, rfl, by simpa using TwoRows.start we.heap.size we⟩
              case round =>
                obtain ⟨k, hk, rfl, hT2⟩ := hrel
                by_cases hlt : k < xs.length
                · have hky : k < ys.length := by rw [HL1.out]; exact hlt
                  have hkb : k < bs.length := by rw [HL2.out]; exact hlt
                  obtain ⟨b1, o1, rfl, hbl1, hcell1⟩ := HA.out k hlt
                  obtain ⟨b2, o2, rfl, hbl2, hcell2⟩ := HB.out k hky
                  have HT := want_take xs ys bs k hlt hky hkb
                  have hx1 := HXS.out k hlt
                  generalize xs[k] = x at *
                  generalize ys[k] = y at *
                  have HT' : Hid ((want xs ys bs).take (k + 1) = (want xs ys bs).take k ++ [(low x.data.toList, y.data.toList)]) := HT
                  clear HT
                  have hlen : ((want xs ys bs).take k).length ≤ 65536 := by
                    rw [List.length_take]
                    omega
                  generalize (want xs ys bs).take k = acc at *
                  have c1 : wr.cell? ⟨b1, o1 + k, none⟩ = some (.string x) := by rw [hT2.below.cell (p := ⟨b1, o1 + k, none⟩) hbl1]; exact hcell1
                  go_wp2_with (first
                    | (go_at_call 15; refine (lower_any x (by omega) _).mono ?_; rintro e wf ⟨rfl, hbl⟩; have hnm := own_below hT2.names hbl (Nat.le_refl _); have hbw := hT2.below.trans (hbl.mono hT2.below.size))
                    | (at_builtin; refine wpList_append_one _ rfl _ _ 23 rfl we.heap.size 9 i9 (.string ⟨#[]⟩) 16 Tryd.underlying23 hi9 hb0 hb1 hb2 rfl _ _ _ rfl (hnm.alloc _) we (hbw.alloc hbw.size _) ⟨_, 0, none⟩ (.string ⟨(low x.data.toList).toArray⟩) rfl (World.cell?_alloc_mark _ _ _ _ 0) rfl (by omega) (by omega) (by have := hbw.size; simp; omega) ?_))
                  intro v1 wg hown1 hg1 hne1 hl1 hb3
                  have har := hT2.args_kept hbl hg1
                  have c2 : wg.cell? ⟨b2, o2 + k, none⟩ = some (.string y) := by rw [hb3.cell (p := ⟨b2, o2 + k, none⟩) hbl2]; exact hcell2
                  go_wp2_with (at_builtin; refine wpList_append_one _ rfl _ _ 23 rfl we.heap.size 9 i9 (.string ⟨#[]⟩) 16 Tryd.underlying23 hi9 hb0 hb1 hb2 rfl _ _ _ rfl (har.alloc _) we (hb3.alloc hb3.size _) ⟨_, 0, none⟩ (.string y) rfl (World.cell?_alloc_mark _ _ _ _ 0) rfl (by omega) (by omega) (by have := hb3.size; simp; omega) ?_)
                  intro v2 wh hown2 hg2 hne2 hl2 hb4
                  have hT' : TwoRows we.heap.size we wh v1 v2 (acc ++ [(low x.data.toList, y.data.toList)]) := hT2.push hbl hown1 hne1 hl1 hg2 hown2 hne2 hl2 hb4
                  clear hg1 hown1 hne1 hl1 hg2 hown2 hne2 hl2 hb4 hb3 har hnm hbw hbl hT2
                  go_wp2
                  go_roundw
                  case rel => exact ⟨k + 1, by omega, by go_num, by rw [HT'.out]; exact hT'⟩
                  case measure => simp [intOf]; omega
                · have hT3 := hT2
                  rw [List.take_of_length_le (by rw [want_length xs ys bs HL1.out HL2.out]; omega)] at hT3
                  clear hT2
                  have hfin := hbd2.trans ((hT.below.mono hbd2.size).trans (hT3.below.mono (Nat.le_trans hbd2.size hT.below.size)))
                  go_wp2_with fail
                  refine (same_names hT hT3 (Nat.le_refl _) 0 rfl).mono ?_
                  rintro e wx ⟨rfl, n, rfl⟩
                  go_wp2_with fail
                  refine (same_args hT hT3 (Nat.le_refl _) n rfl).mono ?_
                  rintro e wx ⟨rfl, m, rfl⟩
                  go_wp2
                  go_ret
                  exact ⟨rfl, below_draws hfin _⟩
        · have hqi : ¬ (xs.length : Int) + 1 ≤ 1048576 / ((pad.size : Int) + 1) := by omega
          go_wp2
          go_ret
          exact ⟨rfl, Below.refl _ _⟩
      · clear hzx hzy
        go_wp2
        go_ret
        exact ⟨rfl, Below.refl _ _⟩
    · have hcs : ¬ xs.length ≤ 65536 ∨ (xs.length ≤ 65536 ∧ ¬ ys.length ≤ 65536) ∨ (xs.length ≤ 65536 ∧ ys.length ≤ 65536 ∧ ¬ bs.length ≤ 65536) ∨ (xs.length ≤ 65536 ∧ ys.length ≤ 65536 ∧ bs.length ≤ 65536 ∧ ¬ pad.size ≤ 1048576) := by omega
      clear hlx
      rcases hcs with h1 | ⟨h1, h2⟩ | ⟨h1, h2, h3⟩ | ⟨h1, h2, h3, h4⟩
      all_goals
        go_wp2
        go_ret
        exact ⟨rfl, Below.refl _ _⟩

end Go.Proofs.Qxb6604015aDoor
