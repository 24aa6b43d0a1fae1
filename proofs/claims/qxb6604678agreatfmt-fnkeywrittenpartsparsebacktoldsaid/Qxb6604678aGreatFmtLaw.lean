import Derived.Test.Qxb6604678aGreatFmtZ
namespace Go.Proofs.Qxb6604678aGreatFmt
open Go Go.RowKit Go.Extern.Stop Go.Stop Go.Extern

theorem sb_length (xs : List ByteArray) : (sb xs).length = xs.length := by simp [sb]
theorem VS.of_own {w : World} {B g n cap : Nat} {xs : List ByteArray} (hn : n = xs.length) (h : w.ownsRow B 9 1 (.slice (some ⟨g, 0, none⟩) n cap) n (sb xs)) : VS w (.slice (some ⟨g, 0, none⟩) n cap) xs := by
  subst hn
  refine ⟨_, _, rfl, fun k hk => ⟨g, 0, rfl, (h.lt g rfl).2, ?_⟩⟩
  rw [Nat.zero_add, h.cellAt k (by omega)]
  simp [sb, hk]

def LawSays (w : World) (e : Ending) (w' : World) : Prop := e = .returned (.bool true) ∧ Below w.heap.size w w'

theorem docL_len (xs : List ByteArray) (hn : xs.length ≤ 65536) (ht : tot xs ≤ 1048576) : (docL xs).length ≤ 1073741824 := by
  have h1 := wto_len xs xs.length (Nat.le_refl _)
  rw [List.take_length] at h1
  unfold docL
  simp only [List.length_append, List.length_cons, List.length_nil]
  omega
def docB (xs : List ByteArray) : ByteArray := ⟨(docL xs).toArray⟩
theorem docB_size (xs : List ByteArray) : (docB xs).size = (docL xs).length := by simp [docB, ByteArray.size]
theorem docB_at (xs : List ByteArray) : At (docB xs) 0 (tailR xs 0) := by
  unfold At docB
  rw [← docL_tail]
  simp

set_option maxRecDepth 100000 in
set_option maxHeartbeats 3200000 in
theorem law_any (F : Interp) (xs : List ByteArray) (v1 : Value) (w : World) (h1 : VS w v1 xs) (hE : Env F w) :
    Calls Tryz.prog 3 #[v1] w fun e w' => LawSays w e w' := by
  obtain ⟨i9, hi9, hb0, hb1', hb2'⟩ := info_parts Tryz.rinfo9
  have hnq22 := fun (W : World) (a : Option Addr) (l c : Nat) => Lib.run_eql_slice_nil (P := Tryz.prog) W 22 9 a l c 0 0 Tryz.underlying22
  obtain ⟨ao, cap, rfl, hc⟩ := h1
  have HX : VS w (.slice ao xs.length cap) xs := ⟨ao, cap, rfl, hc⟩
  have HC : Hid (∀ k (h : k < xs.length), ∃ b off, ao = some ⟨b, off, none⟩ ∧ b < w.heap.size ∧ w.cell? ⟨b, off + k, none⟩ = some (.string xs[k])) := hc
  clear hc
  go_enter Tryz.func3, Tryz.ntmps3
  go_wp2_with fail
  refine (zzBytes_any xs _ _ HX).mono ?_
  rintro e w' ⟨⟨b, rfl, hsm⟩, hw⟩
  subst hw
  cases b with
  | false =>
    go_wp2
    go_ret
    exact ⟨rfl, Below.refl _ _⟩
  | true =>
    have HSM : Hid (∀ k (h : k < xs.length), xs[k].size ≤ 1048576) := hsm rfl
    clear hsm
    by_cases hb : xs.length ≤ 65536
    · go_upto_block 0 with fail
      go_cut [3] (fun _ wc => wc = w' ∧ tot xs ≤ 262144)
      case first =>
        go_wp2
        go_loop [3, 4] (fun nv iv => ∃ k n : Nat, k ≤ xs.length ∧ iv = .int .i64 k ∧ nv = .int .i64 n ∧ n ≤ 1048576 ∧ (n ≤ 262144 ∨ k = 0) ∧ Hid (n = 8 * xs.length + tot (xs.take k))) (fun _ iv => xs.length - (intOf iv).toNat)
        case atStart => exact ⟨0, 8 * xs.length, Nat.zero_le _, rfl, by go_num, by omega, .inr rfl, by show _ = _; simp [tot]⟩
        case round =>
          obtain ⟨k, n, hk, rfl, rfl, hn, hn2, HN⟩ := hrel
          by_cases hlt : k < xs.length
          · obtain ⟨b, off, rfl, hbl, hcell⟩ := HC.out k hlt
            have hsk := HSM.out k hlt
            have HN' : Hid (n + xs[k].size = 8 * xs.length + tot (xs.take (k + 1))) := by show _ = _; rw [HN.out, tot_take xs k hlt]; omega
            by_cases hs : n + xs[k].size ≤ 262144
            · go_wp2
              go_round
              case rel => exact ⟨k + 1, n + xs[k].size, by omega, by go_num, by go_num, by omega, .inl hs, HN'⟩
              case measure => simp [intOf]; omega
            · go_wp2
              go_ret
              exact ⟨rfl, Below.refl _ _⟩
          · obtain rfl : k = xs.length := by omega
            have hS : tot xs ≤ 262144 := by
              have := HN.out
              rw [List.take_length] at this
              rcases hn2 with h | h
              · omega
              · have h3 : xs = [] := List.eq_nil_of_length_eq_zero h
                rw [h3]; simp [tot]
            clear hn2 HN
            go_wp2
            go_meet
            case rel => exact ⟨rfl, hS⟩
      case rest =>
        obtain ⟨rfl, hS⟩ := hcut
        rename World => w0
        go_upto_if 37 with fail
        go_cut [0] (fun v0 wd => VS wd v0 xs ∧ Below w0.heap.size w0 wd)
        case first =>
          cases ao with
          | none =>
            go_wp2
            go_meet
            case rel => exact ⟨HX, Below.refl _ _⟩
          | some a =>
            go_wp2_with (at_make; refine wpList_make_full _ rfl _ _ 22 rfl w0.heap.size 9 i9 (.string ⟨#[]⟩) 1 Tryz.underlying22 hi9 hb0 hb1' _ _ _ _ xs.length rfl rfl rfl rfl (by rw [hb2']; omega) (by unfold maxLen; omega) (Nat.le_refl _) ?_)
            intro w1 hn1 hg1
            have hnx1 : Below w0.heap.size w0 w1 := (Below.refl _ w0).grown hg1 (Nat.le_refl _) (fun k hk => by cases hk)
            rw [toList_madeCells_one] at hn1
            clear hg1 hnq22
            go_wp2
            go_loopw [6] (fun iv wr => ∃ k : Nat, k ≤ xs.length ∧ iv = .int .i64 k ∧ wr.ownsRow w0.heap.size 9 1 (.slice (some ⟨w0.heap.size, 0, none⟩) xs.length xs.length) xs.length (part (sb xs) (.string ⟨#[]⟩) k) ∧ Below w0.heap.size w0 wr) (fun iv _ => xs.length - (intOf iv).toNat)
            case atStart => exact ⟨0, Nat.zero_le _, rfl, by rw [part_zero, sb_length]; exact hn1, hnx1⟩
            case round =>
              obtain ⟨k, hk, rfl, hN, hB⟩ := hrel
              by_cases hlt : k < xs.length
              · obtain ⟨b, off, e, hbl, hcell⟩ := HC.out k hlt
                obtain rfl : a = ⟨b, off, none⟩ := by simpa using e
                clear e
                have c1 : wr.cell? ⟨b, off + k, none⟩ = some (.string xs[k]) := by rw [hB.cell (p := ⟨b, off + k, none⟩) hbl]; exact hcell
                have d1 : wr.cell? ⟨w0.heap.size, k, none⟩ = some (.string ⟨#[]⟩) := by rw [hN.cellAt _ (by omega), part_at _ _ _ (by rw [sb_length]; exact hlt)]
                have f1 := hN.frozenAt k
                go_wp2
                go_roundw
                case rel =>
                  refine ⟨k + 1, by omega, by go_num, ?_, hB.setCell (Nat.le_refl _) _⟩
                  have := (hN.stored k (.string xs[k])).1
                  rw [part_set _ _ _ _ (by simp [sb, hlt])] at this
                  exact this
                case measure => simp [intOf]; omega
              · have e : k = xs.length := by omega
                subst e
                have hp := part_all (sb xs) (.string ⟨#[]⟩)
                rw [sb_length] at hp
                rw [hp] at hN
                have hV := VS.of_own rfl hN
                clear hN hp hn1 hnx1
                go_wp2
                go_meet
                case rel => exact ⟨hV, hB⟩
        case rest =>
          obtain ⟨hv0, hB0⟩ := hcut
          have CW : Calls Tryz.prog 5 #[u0] wc fun e w' => e = .returned (.string (docB xs)) ∧ Below wc.heap.size wc w' := write_any xs u0 wc hv0 hb (by omega)
          have hDs : (docB xs).size ≤ 1073741824 := by rw [docB_size]; exact docL_len xs hb (by omega)
          have HDA : Hid (At (docB xs) 0 (tailR xs 0)) := docB_at xs
          clear HX HC HSM hS
          generalize docB xs = D at *
          obtain ⟨ao', cap', rfl, hc'⟩ := hv0
          have HC : Hid (∀ k (h : k < xs.length), ∃ b off, ao' = some ⟨b, off, none⟩ ∧ b < wc.heap.size ∧ wc.cell? ⟨b, off + k, none⟩ = some (.string xs[k])) := hc'
          clear hc'
          go_wp2_with fail
          refine CW.mono ?_
          rintro e w2 ⟨rfl, hB2⟩
          clear CW
          have CN := newParser_any D hDs w2
          go_wp2_with fail
          refine CN.mono ?_
          rintro e w3 ⟨rfl, hP3, hB3⟩
          clear CN
          have hB23 : Below wc.heap.size wc w3 := hB2.trans (hB3.mono hB2.size)
          have hB03 : Below w0.heap.size w0 w3 := hB0.trans (hB23.mono hB0.size)
          have hBle : wc.heap.size ≤ w2.heap.size := hB2.size
          clear hB2 hB3
          generalize w2.heap.size = B at *
          by_cases h0 : xs.length = 0
          · have hA : At D 0 [32, 61, 32, 49] := by
              have h1 := HDA.out
              have h2 : xs = [] := List.eq_nil_of_length_eq_zero h0
              rw [h2] at h1
              exact h1
            have CK := zzkey_none F B D w0 w3 hP3 hA hE hB03 (Nat.le_trans hB0.size hBle)
            have hz : ((xs.length : Int) == 0) = true := by rw [h0]; rfl
            clear hA HDA HC
            go_wp2_with fail
            refine CK.mono ?_
            rintro e w4 ⟨⟨t, v, rfl⟩, hB4⟩
            clear CK
            go_wp2
            go_ret
            exact ⟨rfl, hB4⟩
          · have CK := zzkey_some B D xs w3 hP3 HDA.out (by omega) hb
            have hz : ((xs.length : Int) == 0) = false := beq_eq_false_iff_ne.2 (by omega)
            have hD4 : 4 ≤ D.size := by
              have h1 := congrArg List.length HDA.out
              rw [← docL_tail] at h1
              unfold docL at h1
              simp only [List.length_drop, List.length_append, Array.length_toList, List.length_cons, List.length_nil] at h1
              have e : D.data.size = D.size := rfl
              omega
            clear HDA
            go_wp2_with fail
            refine CK.mono ?_
            rintro e w4 ⟨vp, rfl, hown, hP4, hG4⟩
            clear CK
            have hB24 : Below wc.heap.size wc w4 := below_but hB23 hG4 hBle hB23.size
            have hB04 : Below w0.heap.size w0 w4 := hB0.trans (hB24.mono hB0.size)
            clear hB23 hB03 hP3 hG4
            rcases hown.2 with ⟨_, hv⟩ | ⟨g, cp, cur, rfl, hbg, hg, hnc, hrest⟩
            · exact absurd hv (by omega)
            have HO : Hid (∀ k (h : k < xs.length), w4.cell? ⟨g, k, none⟩ = some (.string xs[k])) := fun k h => by
              rw [hown.cellAt k (by omega)]
              simp [sb, h]
            clear hrest hown hg hbg
            have CP := pos_any B D (D.size - 3) w4 hP4
            have hsub : IntKind.i64.wrap ((D.size : Int) - 3) = ((D.size - 3 : Nat) : Int) := by rw [IntKind.wrap_i64]; omega
            generalize hd3 : D.size - 3 = d3 at *
            have HD3 : Hid (D.size - 3 = d3) := hd3
            clear hd3
            go_wp2_with fail
            refine CP.mono ?_
            rintro e w5 ⟨rfl, rfl⟩
            clear CP
            go_wp2_with fail
            clear hsub HD3 hP4 hnq22
            go_loopw [11] (fun iv wr => ∃ k m : Nat, k ≤ xs.length ∧ iv = .int .i64 k ∧ wr = w5.drewN m) (fun iv _ => xs.length - (intOf iv).toNat)
            case atStart => exact ⟨0, 0, Nat.zero_le _, rfl, rfl⟩
            case round =>
              obtain ⟨k, m, hk, rfl, rfl⟩ := hrel
              by_cases hlt : k < xs.length
              · obtain ⟨b, off, rfl, hbl, hcell⟩ := HC.out k hlt
                have e1 : w5.cell? ⟨b, off + k, none⟩ = some (.string xs[k]) := (hB24.cell (p := ⟨b, off + k, none⟩) hbl).trans hcell
                have e2 := HO.out k hlt
                have hki : (k : Int) < (xs.length : Int) := by omega
                have hk0 : (0 : Int) ≤ (k : Int) := by omega
                clear hcell
                go_wp2_with fail
                go_quiet (fail)
                go_wp2
                go_roundw
                case rel => exact ⟨k + 1, _, by omega, by go_num, rfl⟩
                case measure => simp [intOf]; omega
              · go_wp2
                go_ret
                exact ⟨rfl, below_draws hB04 m⟩
    · go_wp2
      go_ret
      exact ⟨rfl, Below.refl _ _⟩
end Go.Proofs.Qxb6604678aGreatFmt
