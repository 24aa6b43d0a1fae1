import Derived.Test.Qxb6604990aDoorDoc
import Derived.Deep.DeepCutAuto
import Derived.Deep.CutBlock
import Derived.Lib.SliceRun
namespace Go.Proofs.Qxb6604990aDoor
open Go.RowKit

theorem Tryd.rinfo9 : (Tryd.prog.info? 9).map (fun i => (i.zero, i.size, i.bytes)) = some (some (.string ⟨#[]⟩), 1, 16) := by kernel_rfl
theorem Tryd.rinfo5 : (Tryd.prog.info? 5).map (fun i => (i.zero, i.size, i.bytes)) = some (some (.int .u8 0), 1, 1) := by kernel_rfl
def sb (xs : List ByteArray) : List Value := xs.map Value.string
theorem sb_length (xs : List ByteArray) : (sb xs).length = xs.length := by simp [sb]
theorem VS.of_own {w : World} {B g n cap : Nat} {xs : List ByteArray} (hn : n = xs.length) (h : w.ownsRow B 9 1 (.slice (some ⟨g, 0, none⟩) n cap) n (sb xs)) : VS w (.slice (some ⟨g, 0, none⟩) n cap) xs := by
  subst hn
  refine ⟨_, _, rfl, fun k hk => ⟨g, 0, rfl, (h.lt g rfl).2, ?_⟩⟩
  rw [Nat.zero_add, h.cellAt k (by omega)]
  simp [sb, hk]
theorem VU.of_own {w : World} {B g n cap : Nat} {xs : List UInt8} (hn : n = xs.length) (h : w.ownsRow B 5 1 (.slice (some ⟨g, 0, none⟩) n cap) n (bv xs)) : VU w (.slice (some ⟨g, 0, none⟩) n cap) xs := by
  subst hn
  refine ⟨_, _, rfl, fun k hk => ⟨g, 0, rfl, (h.lt g rfl).2, ?_⟩⟩
  rw [Nat.zero_add, h.cellAt k (by omega)]
  simp [bv, hk]

theorem str_at {w : World} {g p cp : Nat} (x : ByteArray) (h : ∀ k (hk : k < x.size), w.cell? ⟨g, p + k, none⟩ = some (.int .u8 (x[k].toNat : Int))) :
    (convert 23 9 (.slice (some ⟨g, p, none⟩) x.size cp)).run Tryd.prog w = .ok (.string x) w := by
  have hs : x.data.toList.length = x.size := by simp
  have := run_convert_bytes_back (P := Tryd.prog) w 23 9 5 ⟨g, p, none⟩ cp x.data.toList Tryd.underlying23 Tryd.underlying5 Tryd.underlying9 (fun j hj => by
    have ha : (⟨g, p, none⟩ : Addr).add j = ⟨g, p + j, none⟩ := by unfold Addr.add; split <;> simp_all
    rw [ha]
    exact h j (by omega))
  rw [hs] at this
  exact this
theorem str_of {w : World} {g p cp : Nat} (x : ByteArray) (h : ∀ k (hk : k < x.size), w.cell? ⟨g, p + k, none⟩ = some (.int .u8 (x[k].toNat : Int))) (m : Nat) :
    (convert 23 9 (.slice (some ⟨g, p, none⟩) x.size cp)).run Tryd.prog (w.drewN m) = .ok (.string x) (w.drewN m) := str_at x h
theorem drop_bts {w : World} {B g n cp : Nat} {L : List UInt8} (h : w.ownsRow B 5 1 (.slice (some ⟨g, 0, none⟩) n cp) n (bv L)) (hn : n = L.length) (p : Nat) : Bts w g p (L.drop p) := by
  intro k hk
  have hk' : p + k < L.length := by simp at hk; omega
  rw [h.cellAt (p + k) (by omega)]
  simp [bv, hk']

def LawSays (w : World) (e : Ending) (w' : World) : Prop := e = .returned (.bool true) ∧ Below w.heap.size w w'

/-- The sum is counted: 16 a line, the ends, the tail, the lines. -/
def Sum (xs : List ByteArray) (us : List UInt8) (t : ByteArray) (n : Nat) : Prop := n = 16 * xs.length + us.length + t.size + tot xs

set_option maxRecDepth 100000 in
set_option maxHeartbeats 3200000 in
theorem law_any (xs : List ByteArray) (us : List UInt8) (t : ByteArray) (v1 v2 : Value) (w : World) (h1 : VS w v1 xs) (h2 : VU w v2 us) (hE : Env w) :
    Calls Tryd.prog 3 #[v1, v2, .string t] w fun e w' => LawSays w e w' := by
  obtain ⟨i9, hi9, hb0, hb1', hb2'⟩ := info_parts Tryd.rinfo9
  obtain ⟨i5, hi5, hz0, hz1, hz2⟩ := info_parts Tryd.rinfo5
  have hnq22 := fun (W : World) (a : Option Addr) (l c : Nat) => Lib.run_eql_slice_nil (P := Tryd.prog) W 22 9 a l c 0 0 Tryd.underlying22
  have hnq23 := fun (W : World) (a : Option Addr) (l c : Nat) => Lib.run_eql_slice_nil (P := Tryd.prog) W 23 5 a l c 0 0 Tryd.underlying23
  obtain ⟨ao, cap, rfl, hc⟩ := h1
  have HX : VS w (.slice ao xs.length cap) xs := ⟨ao, cap, rfl, hc⟩
  have HC : Hid (∀ k (h : k < xs.length), ∃ b off, ao = some ⟨b, off, none⟩ ∧ b < w.heap.size ∧ w.cell? ⟨b, off + k, none⟩ = some (.string xs[k])) := hc
  obtain ⟨ao2, cap2, rfl, hc2⟩ := h2
  have HU : VU w (.slice ao2 us.length cap2) us := ⟨ao2, cap2, rfl, hc2⟩
  clear hc hc2
  go_enter Tryd.func3, Tryd.ntmps3
  go_wp2_with fail
  refine (zzBytes_any xs us t _ _ _ HX HU).mono ?_
  rintro e w' ⟨⟨b, rfl, hsm⟩, hw⟩
  subst hw
  cases b with
  | false =>
    go_wp2
    go_ret
    exact ⟨rfl, Below.refl _ _⟩
  | true =>
    have HSM : Hid (∀ k (h : k < xs.length), xs[k].size ≤ 1048576) := hsm rfl
    clear hsm
    by_cases hb : xs.length ≤ 65536 ∧ us.length ≤ 1048576 ∧ t.size ≤ 1048576
    · obtain ⟨hb1, hb2, hb3⟩ := hb
      go_upto_block 0 with fail
      go_cut [7] (fun tv wc => ∃ n : Nat, tv = .int .i64 n ∧ wc = w' ∧ n ≤ 3145728 + 1048576 ∧ (n ≤ 1048576 → Sum xs us t n))
      case first =>
        go_wp2
        go_loop [7, 8] (fun nv iv => ∃ k n : Nat, k ≤ xs.length ∧ iv = .int .i64 k ∧ nv = .int .i64 n ∧ n ≤ 3145728 + 1048576 ∧ (n ≤ 1048576 ∨ k = 0) ∧ Hid (n = 16 * xs.length + us.length + t.size + tot (xs.take k))) (fun _ iv => xs.length - (intOf iv).toNat)
        case atStart => exact ⟨0, 16 * xs.length + us.length + t.size, Nat.zero_le _, rfl, by go_num, by omega, .inr rfl, by show _ = _; simp [tot]⟩
        case round =>
          obtain ⟨k, n, hk, rfl, rfl, hn, hn2, HN⟩ := hrel
          by_cases hlt : k < xs.length
          · obtain ⟨b, off, rfl, hbl, hcell⟩ := HC.out k hlt
            have hsk := HSM.out k hlt
            have HN' : Hid (n + xs[k].size = 16 * xs.length + us.length + t.size + tot (xs.take (k + 1))) := by show _ = _; rw [HN.out, tot_take xs k hlt]; omega
            by_cases hs : n + xs[k].size ≤ 1048576
            · go_wp2
              go_round
              case rel => exact ⟨k + 1, n + xs[k].size, by omega, by go_num, by go_num, by omega, .inl hs, HN'⟩
              case measure => simp [intOf]; omega
            · have hs' : decide ((1048576 : Int) < (n : Int) + (xs[k].size : Int)) = true := decide_eq_true (by omega)
              clear hs'
              go_wp2
              go_ret
              exact ⟨rfl, Below.refl _ _⟩
          · obtain rfl : k = xs.length := by omega
            have HS : Hid (Sum xs us t n) := by
              have := HN.out
              rw [List.take_length] at this
              exact this
            go_wp2
            go_meet
            case rel => exact ⟨n, rfl, rfl, hn, fun _ => HS⟩
      case rest =>
        obtain ⟨n, rfl, rfl, hn, hS⟩ := hcut
        by_cases hn1 : n ≤ 1048576
        · have HS : Hid (Sum xs us t n) := hS hn1
          have HXS : Hid (∀ k (h : k < xs.length), xs[k].size ≤ 1048576) := fun k h => by have := size_le_tot xs k h; have h2 : Sum xs us t n := HS; unfold Sum at h2; omega
          clear hS hn
          go_upto_block 2 with fail
          go_cut [9] (fun _ wd => wd = wc ∧ Hid (∀ k (h : k < xs.length), xs[k].data.toList.any isEnd = false))
          case first =>
            go_wp2
            go_loop [9] (fun iv => ∃ k : Nat, k ≤ xs.length ∧ iv = .int .i64 k ∧ Hid (∀ j (h : j < xs.length), j < k → xs[j].data.toList.any isEnd = false)) (fun iv => xs.length - (intOf iv).toNat)
            case atStart => exact ⟨0, Nat.zero_le _, rfl, fun j h hj => absurd hj (by omega)⟩
            case round =>
              obtain ⟨k, hk, rfl, HK⟩ := hrel
              by_cases hlt : k < xs.length
              · obtain ⟨b, off, rfl, hbl, hcell⟩ := HC.out k hlt
                go_wp2_with fail
                refine (hasEnd_any xs[k] (HXS.out k hlt) _).mono ?_
                rintro e we ⟨he, rfl⟩
                cases ha : xs[k].data.toList.any isEnd
                · rw [ha] at he
                  subst he
                  have HK' : Hid (∀ j (h : j < xs.length), j < k + 1 → xs[j].data.toList.any isEnd = false) := fun j h hj => by
                    by_cases e : j = k
                    · subst e; exact ha
                    · exact HK.out j h (by omega)
                  clear ha HK
                  go_wp2
                  go_round
                  case rel => exact ⟨k + 1, by omega, by go_num, HK'⟩
                  case measure => simp [intOf]; omega
                · rw [ha] at he
                  subst he
                  clear ha
                  go_wp2
                  go_ret
                  exact ⟨rfl, Below.refl _ _⟩
              · obtain rfl : k = xs.length := by omega
                go_wp2
                go_meet
                case rel => exact ⟨rfl, fun j h => HK.out j h h⟩
          case rest =>
            obtain ⟨rfl, HG1⟩ := hcut
            go_wp2_with fail
            refine (hasEnd_any t hb3 _).mono ?_
            rintro e we ⟨he, rfl⟩
            cases ha : t.data.toList.any isEnd
            case true =>
              rw [ha] at he
              subst he
              clear ha
              go_wp2
              go_ret
              exact ⟨rfl, Below.refl _ _⟩
            case false =>
              rw [ha] at he
              subst he
              have HG2 : Hid (t.data.toList.any isEnd = false) := ha
              clear ha
              go_upto_block 4 with fail
              go_cut [10] (fun _ wd => wd = we ∧ Hid (∀ k (h : k + 1 < xs.length), ¬ (kd us k = 2 ∧ xs[k + 1].size = 0 ∧ kd us (k + 1) = 0)))
              case first =>
                go_wp2
                go_loop [10] (fun iv => ∃ k : Nat, k ≤ xs.length ∧ iv = .int .i64 k ∧ Hid (∀ j (h : j + 1 < xs.length), j < k → ¬ (kd us j = 2 ∧ xs[j + 1].size = 0 ∧ kd us (j + 1) = 0))) (fun iv => xs.length - (intOf iv).toNat)
                case atStart => exact ⟨0, Nat.zero_le _, rfl, fun j h hj => absurd hj (by omega)⟩
                case round =>
                  obtain ⟨k, hk, rfl, HK⟩ := hrel
                  by_cases hlt : k + 1 < xs.length
                  · obtain ⟨b, off, rfl, hbl, hcell⟩ := HC.out (k + 1) hlt
                    have step : ¬ (kd us k = 2 ∧ xs[k + 1].size = 0 ∧ kd us (k + 1) = 0) → Hid (∀ j (h : j + 1 < xs.length), j < k + 1 → ¬ (kd us j = 2 ∧ xs[j + 1].size = 0 ∧ kd us (j + 1) = 0)) := fun hn j h hj => by
                      by_cases e : j = k
                      · subst e; exact hn
                      · exact HK.out j h (by omega)
                    have K1 := endKind_any us k _ we HU
                    have K2 := endKind_any us (k + 1) _ we HU
                    rw [show ((k + 1 : Nat) : Int) = (k : Int) + 1 from by omega] at K2
                    by_cases hq : kd us k = 2
                    · have hq' : ((kd us k : Int) == 2) = true := by rw [hq]; rfl
                      by_cases hz : xs[k + 1].size = 0
                      · have hz' : ((xs[k + 1].size : Int) == 0) = true := by rw [hz]; rfl
                        by_cases hr : kd us (k + 1) = 0
                        · have hr' : ((kd us (k + 1) : Int) == 0) = true := by rw [hr]; rfl
                          clear hq hz hr step
                          go_wp2_with fail
                          refine K1.mono ?_
                          rintro e wf ⟨rfl, rfl⟩
                          go_wp2_with fail
                          refine K2.mono ?_
                          rintro e wg ⟨rfl, rfl⟩
                          go_wp2
                          go_ret
                          exact ⟨rfl, Below.refl _ _⟩
                        · have hr' : ((kd us (k + 1) : Int) == 0) = false := by simp; omega
                          have HK' := step (fun h => hr h.2.2)
                          clear hq hz hr step
                          go_wp2_with fail
                          refine K1.mono ?_
                          rintro e wf ⟨rfl, rfl⟩
                          go_wp2_with fail
                          refine K2.mono ?_
                          rintro e wg ⟨rfl, rfl⟩
                          go_wp2
                          go_round
                          case rel => exact ⟨k + 1, by omega, by go_num, HK'⟩
                          case measure => simp [intOf]; omega
                      · have hz' : ((xs[k + 1].size : Int) == 0) = false := beq_eq_false_iff_ne.2 (by omega)
                        have HK' := step (fun h => hz h.2.1)
                        clear hq hz step
                        go_wp2_with fail
                        refine K1.mono ?_
                        rintro e wf ⟨rfl, rfl⟩
                        go_wp2
                        go_round
                        case rel => exact ⟨k + 1, by omega, by go_num, HK'⟩
                        case measure => simp [intOf]; omega
                    · have hq' : ((kd us k : Int) == 2) = false := by simp; omega
                      have HK' := step (fun h => hq h.1)
                      clear hq step
                      go_wp2_with fail
                      refine K1.mono ?_
                      rintro e wf ⟨rfl, rfl⟩
                      go_wp2
                      go_round
                      case rel => exact ⟨k + 1, by omega, by go_num, HK'⟩
                      case measure => simp [intOf]; omega
                  · have HK' : Hid (∀ j (h : j + 1 < xs.length), ¬ (kd us j = 2 ∧ xs[j + 1].size = 0 ∧ kd us (j + 1) = 0)) := fun j h => HK.out j h (by omega)
                    clear HK
                    go_wp2
                    go_meet
                    case rel => exact ⟨rfl, HK'⟩
              case rest =>
                obtain ⟨rfl, HG3⟩ := hcut
                have HG : Hid (Good xs us t) := ⟨HG1.out, HG2.out, HG3.out⟩
                clear HG1 HG2 HG3
                rename World => w0
                go_upto_if 108 with fail
                go_cut [0] (fun v0 wd => VS wd v0 xs ∧ Below w0.heap.size w0 wd)
                case first =>
                  cases ao with
                  | none =>
                    go_wp2
                    go_meet
                    case rel => exact ⟨HX, Below.refl _ _⟩
                  | some a =>
                    go_wp2_with (at_make; refine wpList_make_full _ rfl _ _ 22 rfl w0.heap.size 9 i9 (.string ⟨#[]⟩) 1 Tryd.underlying22 hi9 hb0 hb1' _ _ _ _ xs.length rfl rfl rfl rfl (by rw [hb2']; omega) (by unfold maxLen; omega) (Nat.le_refl _) ?_)
                    intro w1 hn1 hg1
                    have hnx1 : Below w0.heap.size w0 w1 := (Below.refl _ w0).grown hg1 (Nat.le_refl _) (fun k hk => by cases hk)
                    rw [toList_madeCells_one] at hn1
                    clear hg1 hnq22 hnq23
                    go_wp2
                    go_loopw [12] (fun iv wr => ∃ k : Nat, k ≤ xs.length ∧ iv = .int .i64 k ∧ wr.ownsRow w0.heap.size 9 1 (.slice (some ⟨w0.heap.size, 0, none⟩) xs.length xs.length) xs.length (part (sb xs) (.string ⟨#[]⟩) k) ∧ Below w0.heap.size w0 wr) (fun iv _ => xs.length - (intOf iv).toNat)
                    case atStart => exact ⟨0, Nat.zero_le _, rfl, by rw [part_zero, sb_length]; exact hn1, hnx1⟩
                    case round =>
                      obtain ⟨k, hk, rfl, hN, hB⟩ := hrel
                      by_cases hlt : k < xs.length
                      · obtain ⟨b, off, e, hbl, hcell⟩ := HC.out k hlt
                        obtain rfl : a = ⟨b, off, none⟩ := by simpa using e
                        clear e
                        have c1 : wr.cell? ⟨b, off + k, none⟩ = some (.string xs[k]) := by rw [hB.cell (p := ⟨b, off + k, none⟩) hbl]; exact hcell
                        have d1 : wr.cell? ⟨w0.heap.size, k, none⟩ = some (.string ⟨#[]⟩) := by rw [hN.cellAt _ (by omega), part_at _ _ _ (by rw [sb_length]; exact hlt)]
                        have f1 := hN.frozenAt k
                        go_wp2
                        go_roundw
                        case rel =>
                          refine ⟨k + 1, by omega, by go_num, ?_, hB.setCell (Nat.le_refl _) _⟩
                          have := (hN.stored k (.string xs[k])).1
                          rw [part_set _ _ _ _ (by simp [sb, hlt])] at this
                          exact this
                        case measure => simp [intOf]; omega
                      · have e : k = xs.length := by omega
                        subst e
                        have hp := part_all (sb xs) (.string ⟨#[]⟩)
                        rw [sb_length] at hp
                        rw [hp] at hN
                        have hV := VS.of_own rfl hN
                        clear hN hp hn1 hnx1
                        go_wp2
                        go_meet
                        case rel => exact ⟨hV, hB⟩
                case rest =>
                  obtain ⟨hv0, hB0⟩ := hcut
                  have HU1 := HU.below hB0
                  have hE1 := hE.below hB0
                  clear HU hE HX HC HSM
                  obtain ⟨ao2', cap2', he2, hcu⟩ := HU1
                  simp only [Value.slice.injEq] at he2
                  obtain ⟨rfl, _, rfl⟩ := he2
                  have HCU : Hid (∀ k (h : k < us.length), ∃ b off, ao2 = some ⟨b, off, none⟩ ∧ b < wc.heap.size ∧ wc.cell? ⟨b, off + k, none⟩ = some (.int .u8 (us[k].toNat : Int))) := hcu
                  have HU : VU wc (.slice ao2 us.length cap2) us := ⟨ao2, cap2, rfl, hcu⟩
                  clear hcu
                  rename World => w1
                  go_upto_if 127 with fail
                  go_cut [1] (fun v1 wd => VU wd v1 us ∧ Below w1.heap.size w1 wd)
                  case first =>
                    cases ao2 with
                    | none =>
                      go_wp2
                      go_meet
                      case rel => exact ⟨HU, Below.refl _ _⟩
                    | some a =>
                      go_wp2_with (at_make; refine wpList_make_full _ rfl _ _ 23 rfl w1.heap.size 5 i5 (.int .u8 0) 1 Tryd.underlying23 hi5 hz0 hz1 _ _ _ _ us.length rfl rfl rfl rfl (by rw [hz2]; omega) (by unfold maxLen; omega) (Nat.le_refl _) ?_)
                      intro w2 hn1 hg1
                      have hnx1 : Below w1.heap.size w1 w2 := (Below.refl _ w1).grown hg1 (Nat.le_refl _) (fun k hk => by cases hk)
                      rw [toList_madeCells_one] at hn1
                      clear hg1 hnq22 hnq23
                      go_wp2
                      go_loopw [14] (fun iv wr => ∃ k : Nat, k ≤ us.length ∧ iv = .int .i64 k ∧ wr.ownsRow w1.heap.size 5 1 (.slice (some ⟨w1.heap.size, 0, none⟩) us.length us.length) us.length (part (bv us) (.int .u8 0) k) ∧ Below w1.heap.size w1 wr) (fun iv _ => us.length - (intOf iv).toNat)
                      case atStart => exact ⟨0, Nat.zero_le _, rfl, by rw [part_zero, bv_length]; exact hn1, hnx1⟩
                      case round =>
                        obtain ⟨k, hk, rfl, hN, hB⟩ := hrel
                        by_cases hlt : k < us.length
                        · obtain ⟨b, off, e, hbl, hcell⟩ := HCU.out k hlt
                          obtain rfl : a = ⟨b, off, none⟩ := by simpa using e
                          clear e
                          have c1 : wr.cell? ⟨b, off + k, none⟩ = some (.int .u8 (us[k].toNat : Int)) := by rw [hB.cell (p := ⟨b, off + k, none⟩) hbl]; exact hcell
                          have d1 : wr.cell? ⟨w1.heap.size, k, none⟩ = some (.int .u8 0) := by rw [hN.cellAt _ (by omega), part_at _ _ _ (by rw [bv_length]; exact hlt)]
                          have f1 := hN.frozenAt k
                          go_wp2
                          go_roundw
                          case rel =>
                            refine ⟨k + 1, by omega, by go_num, ?_, hB.setCell (Nat.le_refl _) _⟩
                            have := (hN.stored k (.int .u8 (us[k].toNat : Int))).1
                            rw [part_set _ _ _ _ (by simp [bv, hlt])] at this
                            exact this
                          case measure => simp [intOf]; omega
                        · have e : k = us.length := by omega
                          subst e
                          have hp := part_all (bv us) (.int .u8 0)
                          rw [bv_length] at hp
                          rw [hp] at hN
                          have hV := VU.of_own rfl hN
                          clear hN hp hn1 hnx1
                          go_wp2
                          go_meet
                          case rel => exact ⟨hV, hB⟩
                  case rest =>
                    obtain ⟨HU2, hB1⟩ := hcut
                    have HX2 := hv0.below hB1
                    have hE2 := hE1.below hB1
                    have hBB : Below w0.heap.size w0 wc := hB0.trans (hB1.mono hB0.size)
                    clear HU hv0 hE1 HCU hB0 hB1 hnq22 hnq23
                    obtain ⟨ax, cx, rfl, hcx⟩ := HX2
                    obtain ⟨ay, cy, rfl, hcy⟩ := HU2
                    have HU3 : VU wc (.slice ay us.length cy) us := ⟨ay, cy, rfl, hcy⟩
                    have HCX : Hid (∀ k (h : k < xs.length), ∃ b off, ax = some ⟨b, off, none⟩ ∧ b < wc.heap.size ∧ wc.cell? ⟨b, off + k, none⟩ = some (.string xs[k])) := hcx
                    have HFL : Hid (∀ k, k ≤ xs.length → (flat ((items xs us).take k)).length ≤ 1048576 + 131072) := fun k hk => by
                      have := flat_len xs us k hk
                      have := tot_part xs k
                      have h2 : Sum xs us t n := HS
                      unfold Sum at h2
                      omega
                    clear hcx hcy
                    rename World => w2
                    go_wp2_with (at_make; refine wpList_make_own _ rfl _ _ 23 rfl w2.heap.size 5 i5 (.int .u8 0) 1 Tryd.underlying23 hi5 hz0 hz1 _ _ _ (n + 2 * xs.length) rfl rfl (by omega) (by rw [hz2]; omega) (by unfold maxLen; omega) (Nat.le_refl _) ?_)
                    intro w3 hn3 hg3
                    have hR0 : BRow w2.heap.size 5 w2 w3 (.slice (some ⟨w2.heap.size, 0, none⟩) 0 (n + 2 * xs.length)) [] := ⟨hn3, (Below.refl _ w2).grown hg3 (Nat.le_refl _) (fun k hk => by cases hk), hg3.size, by simp⟩
                    clear hn3 hg3
                    go_upto_block 10 with fail
                    go_cut [15] (fun v wd => BRow w2.heap.size 5 w2 wd v (flat (items xs us)))
                    case first =>
                      go_wp2_with fail
                      go_loopw [15, 16] (fun v iv wr => ∃ k : Nat, k ≤ xs.length ∧ iv = .int .i64 k ∧ BRow w2.heap.size 5 w2 wr v (flat ((items xs us).take k))) (fun _ iv _ => xs.length - (intOf iv).toNat)
                      case atStart => exact ⟨0, Nat.zero_le _, rfl, hR0⟩
                      case round =>
                        obtain ⟨k, hk, rfl, hR⟩ := hrel
                        by_cases hlt : k < xs.length
                        · obtain ⟨b, off, rfl, hbl, hcell⟩ := HCX.out k hlt
                          have hlen := HFL.out k hk
                          have hsx := HXS.out k hlt
                          have HT := items_take xs us k hlt
                          have hcs := kd_cases us k
                          have c1 : wr.cell? ⟨b, off + k, none⟩ = some (.string xs[k]) := by rw [hR.below.cell (p := ⟨b, off + k, none⟩) hbl]; exact hcell
                          generalize flat ((items xs us).take k) = F at *
                          generalize xs[k] = x at *
                          have HT' : Hid (flat ((items xs us).take (k + 1)) = F ++ x.data.toList ++ ends (kd us k)) := HT
                          clear HT
                          go_wp2_with (at_builtin; refine wpList_bytes_string _ rfl _ _ 23 9 rfl w2.heap.size 5 i5 Tryd.underlying23 Tryd.underlying9 hi5 hz0 hz1 hz2 _ _ rfl w2 hR x rfl (by omega) ?_)
                          intro va wa hRa
                          clear hR c1
                          go_wp2_with fail
                          refine (endKind_any us k _ _ (HU3.below hRa.below)).mono ?_
                          rintro e wb ⟨he, hwb⟩
                          rw [hwb]
                          clear hwb
                          rcases hcs with hq | hq | hq
                          · rw [hq] at he
                            subst he
                            have HE : Hid (flat ((items xs us).take (k + 1)) = F ++ x.data.toList ++ [10]) := by show _ = _; rw [HT'.out, hq]; rfl
                            clear hq HT'
                            go_wp2_with (at_builtin; refine wpList_bytes_row _ rfl _ _ 23 rfl w2.heap.size 5 i5 Tryd.underlying23 hi5 hz0 hz1 hz2 _ _ rfl w2 (hRa.alloc _) _ 1 1 rfl _ _ _ (heap_new_at rfl) [10] rfl rfl (by simp; omega) ?_)
                            intro vb wq hRb
                            clear hRa
                            go_wp2
                            go_roundw
                            case rel => exact ⟨k + 1, by omega, by go_num, by rw [HE.out, List.append_assoc]; exact hRb⟩
                            case measure => simp [intOf]; omega
                          · rw [hq] at he
                            subst he
                            have HE : Hid (flat ((items xs us).take (k + 1)) = F ++ x.data.toList ++ [13, 10]) := by show _ = _; rw [HT'.out, hq]; rfl
                            clear hq HT'
                            go_wp2_with (at_builtin; refine wpList_bytes_row _ rfl _ _ 23 rfl w2.heap.size 5 i5 Tryd.underlying23 hi5 hz0 hz1 hz2 _ _ rfl w2 (hRa.alloc _) _ 2 2 rfl _ _ _ (heap_new_at rfl) [13, 10] rfl rfl (by simp; omega) ?_)
                            intro vb wq hRb
                            clear hRa
                            go_wp2
                            go_roundw
                            case rel => exact ⟨k + 1, by omega, by go_num, by rw [HE.out, List.append_assoc]; exact hRb⟩
                            case measure => simp [intOf]; omega
                          · rw [hq] at he
                            subst he
                            have HE : Hid (flat ((items xs us).take (k + 1)) = F ++ x.data.toList ++ [13]) := by show _ = _; rw [HT'.out, hq]; rfl
                            clear hq HT'
                            go_wp2_with (at_builtin; refine wpList_bytes_row _ rfl _ _ 23 rfl w2.heap.size 5 i5 Tryd.underlying23 hi5 hz0 hz1 hz2 _ _ rfl w2 (hRa.alloc _) _ 1 1 rfl _ _ _ (heap_new_at rfl) [13] rfl rfl (by simp; omega) ?_)
                            intro vb wq hRb
                            clear hRa
                            go_wp2
                            go_roundw
                            case rel => exact ⟨k + 1, by omega, by go_num, by rw [HE.out, List.append_assoc]; exact hRb⟩
                            case measure => simp [intOf]; omega
                        · have e : k = xs.length := by omega
                          subst e
                          rw [List.take_of_length_le (by rw [items_length]; omega)] at hR
                          go_wp2
                          go_meet
                          case rel => exact hR
                    case rest =>
                      have hRf := hcut
                      have hfl : (flat (items xs us)).length ≤ 1048576 + 131072 := by
                        have := HFL.out xs.length (Nat.le_refl _)
                        rwa [List.take_of_length_le (by rw [items_length]; omega)] at this
                      clear hR0 HFL
                      go_wp2_with (at_builtin; refine wpList_bytes_string _ rfl _ _ 23 9 rfl w2.heap.size 5 i5 Tryd.underlying23 Tryd.underlying9 hi5 hz0 hz1 hz2 _ _ rfl w2 hRf t rfl (by omega) ?_)
                      intro vd wd hRd
                      clear hRf
                      have hE3 := hE2.below hRd.below
                      have hBd : Below w0.heap.size w0 wd := hBB.trans (hRd.below.mono hBB.size)
                      have HCX2 : Hid (∀ k (h : k < xs.length), ∃ b off, ax = some ⟨b, off, none⟩ ∧ b < wd.heap.size ∧ wd.cell? ⟨b, off + k, none⟩ = some (.string xs[k])) := fun k h => by
                        obtain ⟨b, off, e, hl, hc⟩ := HCX.out k h
                        exact ⟨b, off, e, Nat.lt_of_lt_of_le hl hRd.below.size, (hRd.below.cell (p := ⟨b, off + k, none⟩) hl).trans hc⟩
                      obtain ⟨L, hL⟩ : ∃ L, L = flat (items xs us) ++ t.data.toList := ⟨_, rfl⟩
                      have htl : t.data.toList.length = t.size := by simp
                      have hLl : L.length ≤ 4194304 := by rw [hL, List.length_append, htl]; omega
                      clear htl
                      rw [← hL] at hRd
                      have HL : Hid (L = flat (items xs us) ++ t.data.toList) := hL
                      clear hL hfl HCX HU3 hE2 hBB HXS
                      have hown := hRd.own
                      rcases hown.2 with ⟨hv, _⟩ | ⟨g, cd, cur, hv, hbg, hg, hnc, hrest⟩
                      · exact absurd hv hRd.nn
                      subst hv
                      have hgl : g < wd.heap.size := (Array.getElem?_eq_some_iff.1 hg).1
                      have HO : Hid (∀ p, Bts wd g p (L.drop p)) := fun p => drop_bts hown rfl p
                      clear hrest hown hRd hg hbg
                      go_wp2_with fail
                      go_loopw [17, 18, 19] (fun rv fv sv wr => ∃ j p pa : Nat, j ≤ xs.length ∧ j ≤ p ∧ p ≤ L.length ∧ (pa = p ∨ L.length = p) ∧ rv = .slice (some ⟨g, pa, none⟩) (L.length - p) (cd - p) ∧ fv = .int .i64 j ∧ sv = .int .i64 j ∧ Hid (L.drop p = flat ((items xs us).drop j) ++ t.data.toList) ∧ Below wd.heap.size wd wr) (fun _ fv _ _ => xs.length + 1 - (intOf fv).toNat)
                      case atStart => exact ⟨0, 0, 0, Nat.zero_le _, Nat.zero_le _, Nat.zero_le _, .inl rfl, rfl, rfl, rfl, by show _ = _; rw [HL.out]; simp, Below.refl _ _⟩
                      case round =>
                        obtain ⟨j, p, pa, hj, hjp, hp, hpa, rfl, rfl, rfl, HD, hBr⟩ := hrel
                        have hdl : (L.drop p).length = L.length - p := by simp
                        have hbt : Bts wd g pa (L.drop p) := by
                          rcases hpa with e | e
                          · rw [e]; exact HO.out p
                          · intro k hk
                            omega
                        have CALL := zzscan_any g pa (cd - p) (L.drop p) wr (hE3.below hBr) (by omega) (by omega) (Nat.lt_of_lt_of_le hgl hBr.size) (fun k hk => (hBr.cell (p := ⟨g, pa + k, none⟩) hgl).trans (hbt k hk))
                        rw [hdl] at CALL
                        by_cases hlt : j < xs.length
                        · obtain ⟨s1, s2, s3⟩ := scan_step HG.out j hlt
                          rw [← HD.out] at s1 s2 s3
                          have hep := ends_pos (kd us j)
                          have hel := congrArg List.length s3
                          simp only [List.length_append, Array.length_toList] at hel
                          rw [hdl] at hel
                          have hxe : xs[j].data.size = xs[j].size := rfl
                          obtain rfl : pa = p := hpa.resolve_right (by omega)
                          have HN : Hid (L.drop (pa + adv (L.drop pa) xs[j].size) = flat ((items xs us).drop (j + 1)) ++ t.data.toList) := by
                            show _ = _
                            rw [← List.drop_drop, s2, s3, ← List.append_assoc]
                            rw [List.drop_left' (by simp)]
                          have hcells : ∀ k (hk : k < xs[j].size), wd.cell? ⟨g, pa + k, none⟩ = some (.int .u8 (xs[j][k].toNat : Int)) := fun k hk => by
                            have hkl : k < (L.drop pa).length := by omega
                            rw [HO.out pa k hkl]
                            have : (L.drop pa)[k]? = some xs[j][k] := by
                              rw [s3, List.getElem?_append_left (by simpa using hk)]
                              exact cell_idx _ _ hk
                            rw [List.getElem?_eq_getElem hkl] at this
                            rw [Option.some.inj this]
                          have hadv : adv (L.drop pa) xs[j].size = xs[j].size + (ends (kd us j)).length := s2
                          obtain ⟨d, hd⟩ : ∃ d, d = adv (L.drop pa) xs[j].size := ⟨_, rfl⟩
                          rw [← hd] at HN
                          have hd1 : 1 ≤ d := by omega
                          have hd2 : d ≤ L.length - pa := by omega
                          have S1 : Hid (Lib.indexAny (L.drop pa) [13, 10] = (xs[j].size : Int)) := s1
                          have HDD : Hid (d = adv (L.drop pa) xs[j].size) := hd
                          have HCE : Hid (∀ k (hk : k < xs[j].size), wd.cell? ⟨g, pa + k, none⟩ = some (.int .u8 (xs[j][k].toNat : Int))) := hcells
                          clear s1 s2 s3 hep hel hxe hcells hadv hd hdl
                          obtain ⟨b, off, rfl, hbl, hcell⟩ := HCX2.out j hlt
                          go_wp2_with fail
                          refine CALL.mono ?_
                          rintro e wx ⟨(⟨hi, rfl⟩ | ⟨i, hi, hil, rfl⟩), hBx⟩
                          · exfalso
                            have := S1.out
                            omega
                          · obtain rfl : i = xs[j].size := by have := S1.out; omega
                            rw [← HDD.out]
                            have hBw : Below wd.heap.size wd wx := hBr.trans (hBx.mono hBr.size)
                            have hcv := str_of (w := wx) (g := g) (p := pa) (cp := cd - pa) xs[j] (fun k hk => (hBw.cell (p := ⟨g, pa + k, none⟩) hgl).trans (HCE.out k hk))
                            have c1 : wx.cell? ⟨b, off + j, none⟩ = some (.string xs[j]) := (hBw.cell (p := ⟨b, off + j, none⟩) hbl).trans hcell
                            have hdz : ((d : Int) == 0) = false := beq_eq_false_iff_ne.2 (by omega)
                            clear CALL hi hil S1 HDD HCE hBx hBr
                            have hji : (j : Int) < (xs.length : Int) := by omega
                            have hj0 : (0 : Int) ≤ (j : Int) := by omega
                            go_wp2_with fail
                            go_quiet (fail)
                            go_wp2_with fail
                            go_roundw
                            case rel =>
                              by_cases hcd : cd - pa = d
                              · exact ⟨j + 1, pa + d, pa, by omega, by omega, by omega, .inr (by omega), by rw [if_pos hcd, Nat.sub_sub, Nat.sub_sub], by go_num, by go_num, HN, below_draws hBw _⟩
                              · exact ⟨j + 1, pa + d, pa + d, by omega, by omega, by omega, .inl rfl, by rw [if_neg hcd, Nat.sub_sub, Nat.sub_sub], by go_num, by go_num, HN, below_draws hBw _⟩
                            case measure => simp [intOf]; omega
                        · obtain rfl : j = xs.length := by omega
                          have hDt : L.drop p = t.data.toList := by
                            rw [HD.out, List.drop_of_length_le (by rw [items_length]; omega)]
                            rfl
                          have hsz : L.length - p = t.size := by rw [← hdl, hDt, Array.length_toList]; rfl
                          have S1 : Hid (Lib.indexAny (L.drop p) [13, 10] = -1) := by rw [hDt]; exact indexAny_no HG.out.tail
                          have HCE : Hid (∀ k (hk : k < t.size), wd.cell? ⟨g, pa + k, none⟩ = some (.int .u8 (t[k].toNat : Int))) := fun k hk => by
                            have hkl : k < (L.drop p).length := by omega
                            rw [hbt k hkl]
                            have : (L.drop p)[k]? = some t[k] := by
                              rw [hDt]
                              exact cell_idx _ _ hk
                            rw [List.getElem?_eq_getElem hkl] at this
                            rw [Option.some.inj this]
                          have HSZ : Hid (L.length - p = t.size) := hsz
                          clear hDt hsz hdl HD
                          go_wp2_with fail
                          refine CALL.mono ?_
                          rintro e wx ⟨(⟨hi, rfl⟩ | ⟨i, hi, hil, rfl⟩), hBx⟩
                          · have hBw : Below wd.heap.size wd wx := hBr.trans (hBx.mono hBr.size)
                            have hcv := str_at (w := wx) (g := g) (p := pa) (cp := cd - p) t (fun k hk => (hBw.cell (p := ⟨g, pa + k, none⟩) hgl).trans (HCE.out k hk))
                            rw [← HSZ.out] at hcv
                            clear CALL hi S1 HCE hBx hBr
                            go_wp2
                            go_ret
                            exact ⟨rfl, hBd.trans (hBw.mono hBd.size)⟩
                          · exfalso
                            have := S1.out
                            omega
        · clear hS
          go_wp2
          go_ret
          exact ⟨rfl, Below.refl _ _⟩
    · have hcs : ¬ xs.length ≤ 65536 ∨ (xs.length ≤ 65536 ∧ ¬ us.length ≤ 1048576) ∨ (xs.length ≤ 65536 ∧ us.length ≤ 1048576 ∧ ¬ t.size ≤ 1048576) := by omega
      clear hb
      rcases hcs with h1 | ⟨h1, h2⟩ | ⟨h1, h2, h3⟩
      all_goals
        go_wp2
        go_ret
        exact ⟨rfl, Below.refl _ _⟩
end Go.Proofs.Qxb6604990aDoor
