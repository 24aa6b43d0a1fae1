import Derived.Test.Qxb6604015aDoorLex
import Derived.Test.Qxb6604015aDoorLow
import Derived.Test.Qxb6604015aDoorPlain3
import Derived.Deep.DeepCutAuto
import Derived.Deep.CutBlock
namespace Go.Proofs.Qxb6604015aDoor
open Go.RowKit

/-- The names and the arguments of some directives, as cells. -/
def nv (ds : List (Bs × Bs)) : List Value := ds.map fun d => Value.string ⟨d.1.toArray⟩
def av (ds : List (Bs × Bs)) : List Value := ds.map fun d => Value.string ⟨d.2.toArray⟩

/-- Two rows that the call owns: names and arguments, apart; nil where there is none. -/
structure TwoRows (B : Nat) (w0 wr : World) (vn va : Value) (ds : List (Bs × Bs)) : Prop where
  names : wr.ownsRow B 9 1 vn ds.length (nv ds)
  args : wr.ownsRow B 9 1 va ds.length (av ds)
  apart : Apart vn va
  nils : ds = [] → vn = .slice none 0 0 ∧ va = .slice none 0 0
  held : ds ≠ [] → vn ≠ .slice none 0 0 ∧ va ≠ .slice none 0 0
  below : Below B w0 wr

theorem TwoRows.start (B : Nat) (w : World) : TwoRows B w w (.slice none 0 0) (.slice none 0 0) [] :=
  ⟨World.ownsRow_nil _ _ _ _, World.ownsRow_nil _ _ _ _, Apart.nil_left _, fun _ => ⟨rfl, rfl⟩, fun h => absurd rfl h, Below.refl _ _⟩

theorem kcell {w : World} {B g cap : Nat} {ls : List (Nat × Bs)} (h : w.ownsRow B 3 1 (.slice (some ⟨g, 0, none⟩) ls.length cap) ls.length (kv ls)) (m : Nat) (hm : m < ls.length) : w.cell? ⟨g, m, none⟩ = some (.int .i64 (kd ls m)) := by
  rw [h.cellAt m (by omega), kd_at hm]
  simp [kv, hm]
theorem tcell {w : World} {B g cap : Nat} {ls : List (Nat × Bs)} (h : w.ownsRow B 9 1 (.slice (some ⟨g, 0, none⟩) ls.length cap) ls.length (tv ls)) (m : Nat) (hm : m < ls.length) : w.cell? ⟨g, m, none⟩ = some (.string ⟨(tx ls m).toArray⟩) := by
  rw [h.cellAt m (by omega), tx_at hm]
  simp [tv, hm]

theorem TwoRows.args_kept {B : Nat} {w0 wc w2 w3 : World} {o : Obj} {vn va : Value} {ds : List (Bs × Bs)} (h : TwoRows B w0 wc vn va ds) (hb : Below wc.heap.size wc w2) (hg : (w2.alloc o).grownBy w3 vn.ownBlock) : w3.ownsRow B 9 1 va ds.length (av ds) :=
  ((own_below h.args hb (Nat.le_refl _)).alloc o).kept hg h.apart.symm.ne
theorem TwoRows.push {B : Nat} {w0 wc w2 w3 w4 : World} {o2 : Obj} {vn va v1 v2 : Value} {ds : List (Bs × Bs)} {x y : Bs} (h : TwoRows B w0 wc vn va ds) (hb : Below wc.heap.size wc w2)
    (hn : w3.ownsRow B 9 1 v1 (ds.length + 1) (nv ds ++ [.string ⟨x.toArray⟩])) (h1 : ¬ v1 = .slice none 0 0) (hl : v1.ownBlock = vn.ownBlock ∨ ∀ k, v1.ownBlock = some k → w2.heap.size + 1 ≤ k)
    (hg2 : (w3.alloc o2).grownBy w4 va.ownBlock) (ha : w4.ownsRow B 9 1 v2 (ds.length + 1) (av ds ++ [.string ⟨y.toArray⟩])) (h2 : ¬ v2 = .slice none 0 0) (hl2 : v2.ownBlock = va.ownBlock ∨ ∀ k, v2.ownBlock = some k → w3.heap.size + 1 ≤ k)
    (hb4 : Below B w0 w4) : TwoRows B w0 w4 v1 v2 (ds ++ [(x, y)]) := by
  have hl' : v1.ownBlock = vn.ownBlock ∨ ∀ k, v1.ownBlock = some k → w2.heap.size ≤ k := by
    rcases hl with h | h
    · exact .inl h
    · exact .inr fun k hk => by have := h k hk; omega
  have hA : Apart va v1 := apart_grown (own_below h.args hb (Nat.le_refl _)) h.apart.symm hl'
  have hn4 : w4.ownsRow B 9 1 v1 (ds.length + 1) (nv ds ++ [.string ⟨x.toArray⟩]) := (hn.alloc o2).kept hg2 hA.symm.ne
  refine ⟨by simpa [nv] using hn4, by simpa [av] using ha, apart_grown (hn.alloc o2) hA.symm (by simpa using hl2), fun e => by simp at e, fun _ => ⟨h1, h2⟩, hb4⟩
theorem TwoRows.lower {w w1 wr : World} {vn va : Value} {ds : List (Bs × Bs)} (h : TwoRows w1.heap.size w1 wr vn va ds) (hb : Below w.heap.size w w1) : TwoRows w.heap.size w wr vn va ds :=
  ⟨own_base h.names hb.size, own_base h.args hb.size, h.apart, h.nils, h.held, hb.trans (h.below.mono hb.size)⟩

theorem size_list (l : Bs) : (⟨l.toArray⟩ : ByteArray).size = l.length := rfl

/-- The whole answer. -/
def Answer (o : Option (List (Bs × Bs))) (B : Nat) (w : World) (e : Ending) (w' : World) : Prop :=
  (o = none ∧ e = .returned (.tuple #[.slice none 0 0, .slice none 0 0, .bool false]) ∧ Below B w w') ∨
  (∃ ds vn va, o = some ds ∧ e = .returned (.tuple #[vn, va, .bool true]) ∧ TwoRows B w w' vn va ds)

set_option maxRecDepth 100000 in
set_option maxHeartbeats 3200000 in
theorem model_any (s : ByteArray) (hs : s.size ≤ 1073741824) (w : World) :
    Calls Tryd.prog 7 #[.string s] w fun e w' => Answer (SA s.data.toList) w.heap.size w e w' := by
  obtain ⟨i9, hi9, hb0, hb1, hb2⟩ := info_parts Tryd.info9
  go_enter Tryd.func7, Tryd.ntmps7
  go_wp2_with fail
  refine (lex_any s hs w).mono ?_
  rintro e w1 ⟨⟨hl, rfl⟩ | ⟨ls, vk, vt, hl, hll, rfl, hok, hot⟩, hnx⟩
  · have HA : Hid (SA s.data.toList = none) := by show SA _ = _; unfold SA; rw [hl]; rfl
    clear hl
    go_wp2
    go_ret3
    exact .inl ⟨HA.out, rfl, hnx⟩
  · have HA : Hid (SA s.data.toList = pab none ls) := by show SA _ = _; unfold SA; rw [hl]; rfl
    have HTX : Hid (∀ m, (tx ls m).length ≤ 1073741824) := fun m => Nat.le_trans (lexL_small hl m) (by simpa using hs)
    clear hl
    by_cases hls : ls = []
    · subst hls
      have HA' : Hid (SA s.data.toList = some []) := HA.out
      have hz : ∃ ao cap, vk = .slice ao 0 cap := by
        rcases hok.2 with ⟨rfl, _⟩ | ⟨g, cap, _, rfl, _, _⟩
        · exact ⟨_, _, rfl⟩
        · exact ⟨_, _, rfl⟩
      obtain ⟨ao, cap, rfl⟩ := hz
      clear HA hok hot
      go_wp2
      go_loop [8, 9, 10, 11] (fun vn va st i => vn = .slice none 0 0 ∧ va = .slice none 0 0 ∧ ((st = .int .i64 0 ∧ i = .int .i64 0) ∨ (st = .int .i64 1 ∧ i = .int .i64 1))) (fun _ _ _ i => 2 - (intOf i).toNat)
      case atStart => exact ⟨rfl, rfl, .inl ⟨rfl, rfl⟩⟩
      case round =>
        rcases hrel with ⟨rfl, rfl, ⟨rfl, rfl⟩ | ⟨rfl, rfl⟩⟩
        · go_wp2
          go_loop [12] (fun l => l = .int .i64 0) (fun _ => 0)
          case atStart => rfl
          case round =>
            subst hrel
            go_wp2
            go_loop [13] (fun l => l = .int .i64 0) (fun _ => 0)
            case atStart => rfl
            case round =>
              subst hrel
              go_wp2
              go_round
              case rel => exact ⟨rfl, rfl, .inr ⟨rfl, rfl⟩⟩
              case measure => simp [intOf]
        · go_wp2
          go_ret3
          exact .inr ⟨[], _, _, HA'.out, rfl, { TwoRows.start w.heap.size w1 with below := hnx }⟩
    · have hpos : 0 < ls.length := List.length_pos_iff.2 hls
      obtain ⟨g, cap, rfl⟩ : ∃ g cap, vk = .slice (some ⟨g, 0, none⟩) ls.length cap := by
        rcases hok.2 with ⟨_, hz⟩ | ⟨g, cap, _, rfl, _, _⟩
        · omega
        · exact ⟨_, _, rfl⟩
      obtain ⟨g', cap', rfl⟩ : ∃ g cap, vt = .slice (some ⟨g, 0, none⟩) ls.length cap := by
        rcases hot.2 with ⟨_, hz⟩ | ⟨g, cap, _, rfl, _, _⟩
        · omega
        · exact ⟨_, _, rfl⟩
      clear hls
      go_wp2
      go_loopg [8, 9, 10, 11] (ls.length + 2) (fun gk vn va stv iv wr => ∃ (i st : Nat) (acc : List (Bs × Bs)), i ≤ ls.length + 1 ∧ gk = ls.length + 2 - i ∧ st ≤ i ∧ acc.length ≤ st ∧ iv = .int .i64 i ∧ stv = .int .i64 st ∧ TwoRows w1.heap.size w1 wr vn va acc ∧
          Hid (i = ls.length + 1 → st = i) ∧ Hid (∀ m, st ≤ m → m < i → kd ls m ≠ 2) ∧ Hid (prel ls acc (ls.drop st)))
      case atStart => exact ⟨0, 0, [], by omega, rfl, by omega, by simp, rfl, rfl, TwoRows.start _ _, by intro h; omega, by intro m h1 h2; omega, by show prel _ _ _; unfold prel; simp⟩
      case round =>
        obtain ⟨i, st, acc, hi, rfl, hst, hac, rfl, rfl, hT, HI, HK, HP⟩ := hrel
        have hokr := own_below hok hT.below (Nat.le_refl _)
        have hotr := own_below hot hT.below (Nat.le_refl _)
        by_cases hend : i ≤ ls.length
        · by_cases hgo : i < ls.length ∧ kd ls i ≠ 2
          · obtain ⟨hil, hk2⟩ := hgo
            have hci := kcell hokr i hil
            have hkb : (kd ls i != 2) = true := by simpa using hk2
            have HK' : Hid (∀ m, st ≤ m → m < i + 1 → kd ls m ≠ 2) := by
              intro m h1 h2
              by_cases e : m = i
              · subst e; exact hk2
              · exact HK.out m h1 (by omega)
            clear hokr hotr HK hk2
            go_wp2
            go_roundg (ls.length + 2 - (i + 1))
            case measure => omega
            case rel => exact ⟨i + 1, st, acc, by omega, rfl, by omega, hac, by go_num, rfl, hT, by intro h; omega, HK', HP⟩
          · have hcase : (∃ h : i < ls.length, (kd ls i != 2) = false ∧ wr.cell? ⟨g, i, none⟩ = some (.int .i64 (kd ls i))) ∨ ¬ i < ls.length := by
              by_cases h : i < ls.length
              · refine .inl ⟨h, ?_, kcell hokr i h⟩
                have : ¬ kd ls i ≠ 2 := fun hh => hgo ⟨h, hh⟩
                simpa using this
              · exact .inr h
            have HE : Hid (i < ls.length → kd ls i = 2) := by
              intro h
              by_cases hh : kd ls i = 2
              · exact hh
              · exact absurd ⟨h, hh⟩ hgo
            have HX := prel_piece hst hend HK.out HE.out HP.out
            have HX' : Hid (pab none ls = (shape (trimR ((seg ls st i).dropWhile wsL))).bind fun d => (pab none (ls.drop (i + 1))).map fun l => (acc ++ d) ++ l) := HX
            clear hgo HE HX HK HP
            go_upto_region 9 with fail
            go_cut [38] (fun b wc => b = .bool false ∧ wc = wr)
            case first =>
              rcases hcase with ⟨hil, hkb, hci⟩ | hil
              all_goals
                go_wp2_with fail
                go_meet
                case rel => exact ⟨rfl, rfl⟩
            case rest =>
              obtain ⟨rfl, rfl⟩ := hcut
              clear hcase
              go_upto_block 2 with fail
              go_cut [12] (fun lv wc' => ∃ lo : Nat, st ≤ lo ∧ lo ≤ i ∧ lv = .int .i64 lo ∧ wc' = wc ∧ Hid ((seg ls st i).dropWhile wsL = seg ls lo i))
              case first =>
                go_wp2_with fail
                go_loop [12] (fun lv => ∃ lo : Nat, st ≤ lo ∧ lo ≤ i ∧ lv = .int .i64 lo ∧ Hid ((seg ls st i).dropWhile wsL = (seg ls lo i).dropWhile wsL)) (fun lv => i - (intOf lv).toNat)
                case atStart => exact ⟨st, by omega, hst, rfl, rfl⟩
                case round =>
                  obtain ⟨lo, hlo1, hlo2, rfl, HL⟩ := hrel
                  by_cases hgo : lo < i ∧ kd ls lo = 1
                  · obtain ⟨hli, hk1⟩ := hgo
                    have hc := kcell hokr lo (by omega)
                    have hkb : (kd ls lo == 1) = true := by simpa using hk1
                    have HL' : Hid ((seg ls st i).dropWhile wsL = (seg ls (lo + 1) i).dropWhile wsL) := by show _ = _; rw [HL.out, lo_step hli hend hk1]
                    clear hk1 HL
                    go_wp2
                    go_round
                    case rel => exact ⟨lo + 1, by omega, by omega, by go_num, HL'⟩
                    case measure => simp [intOf]; omega
                  · have HL' : Hid ((seg ls st i).dropWhile wsL = seg ls lo i) := by show _ = _; rw [HL.out, lo_stop hlo2 hend (fun h hh => hgo ⟨h, hh⟩)]
                    have hcs : (∃ h : lo < i, (kd ls lo == 1) = false ∧ wc.cell? ⟨g, lo, none⟩ = some (.int .i64 (kd ls lo))) ∨ ¬ lo < i := by
                      by_cases h : lo < i
                      · refine .inl ⟨h, ?_, kcell hokr lo (by omega)⟩
                        have : ¬ kd ls lo = 1 := fun hh => hgo ⟨h, hh⟩
                        simpa using this
                      · exact .inr h
                    clear hgo HL
                    rcases hcs with ⟨hli, hkb, hci⟩ | hli
                    all_goals
                      go_wp2_with fail
                      go_meet
                      case rel => exact ⟨lo, hlo1, hlo2, rfl, rfl, HL'⟩
              case rest =>
                obtain ⟨lo, hlo1, hlo2, rfl, rfl, HLo⟩ := hcut
                go_upto_block 4 with fail
                go_cut [13] (fun hv wc' => ∃ hi : Nat, lo ≤ hi ∧ hi ≤ i ∧ hv = .int .i64 hi ∧ wc' = wc ∧ Hid (trimR (seg ls lo i) = seg ls lo hi))
                case first =>
                  go_wp2_with fail
                  go_loop [13] (fun hv => ∃ hi : Nat, lo ≤ hi ∧ hi ≤ i ∧ hv = .int .i64 hi ∧ Hid (trimR (seg ls lo i) = trimR (seg ls lo hi))) (fun hv => (intOf hv).toNat)
                  case atStart => exact ⟨i, hlo2, by omega, rfl, rfl⟩
                  case round =>
                    obtain ⟨hi', hh1, hh2, rfl, HH⟩ := hrel
                    by_cases hgo : lo < hi' ∧ kd ls (hi' - 1) = 1
                    · obtain ⟨hli, hk1⟩ := hgo
                      have hc := kcell hokr (hi' - 1) (by omega)
                      have hkb : (kd ls (hi' - 1) == 1) = true := by simpa using hk1
                      have HH' : Hid (trimR (seg ls lo i) = trimR (seg ls lo (hi' - 1))) := by
                        show _ = _
                        have := hi_step (ls := ls) (a := lo) (b := hi' - 1) (by omega) (by omega) hk1
                        rw [show hi' - 1 + 1 = hi' from by omega] at this
                        rw [HH.out, this]
                      clear hk1 HH
                      go_wp2
                      go_round
                      case rel => exact ⟨hi' - 1, by omega, by omega, by go_num, HH'⟩
                      case measure => simp [intOf]; omega
                    · have HH' : Hid (trimR (seg ls lo i) = seg ls lo hi') := by show _ = _; rw [HH.out, hi_stop hh1 (by omega) (fun h hh => hgo ⟨h, hh⟩)]
                      have hcs : (∃ h : lo < hi', (kd ls (hi' - 1) == 1) = false ∧ wc.cell? ⟨g, hi' - 1, none⟩ = some (.int .i64 (kd ls (hi' - 1)))) ∨ ¬ lo < hi' := by
                        by_cases h : lo < hi'
                        · refine .inl ⟨h, ?_, kcell hokr (hi' - 1) (by omega)⟩
                          have : ¬ kd ls (hi' - 1) = 1 := fun hh => hgo ⟨h, hh⟩
                          simpa using this
                        · exact .inr h
                      clear hgo HH
                      rcases hcs with ⟨hli, hkb, hci⟩ | hli
                      all_goals
                        go_wp2_with fail
                        go_meet
                        case rel => exact ⟨hi', hh1, hh2, rfl, rfl, HH'⟩
                case rest =>
                  obtain ⟨h', hh1, hh2, rfl, rfl, HHi⟩ := hcut
                  have HS : Hid (pab none ls = (shape (seg ls lo h')).bind fun d => (pab none (ls.drop (i + 1))).map fun l => (acc ++ d) ++ l) := by
                    show _ = _
                    rw [HX'.out, HLo.out, HHi.out]
                  clear HX' HLo HHi
                  by_cases h0 : lo < h'
                  · by_cases h1 : h' ≤ lo + 1
                    · have e1 : h' = lo + 1 := by omega
                      have hll1 : lo < ls.length := by omega
                      by_cases h5 : kd ls lo = 5
                      · have HQ : Hid (prel ls (acc ++ [(low (tx ls lo), [])]) (ls.drop (i + 1))) := by
                          refine prel_some HS.out ?_
                          rw [e1, shape_seg1 hll1, if_pos h5]
                        have hc := kcell hokr lo hll1
                        have htc := tcell hotr lo hll1
                        have hkb : (kd ls lo == 5) = true := by simpa using h5
                        clear HS h5 e1
                        go_wp2_with (first
                          | (go_at_call 15; refine (lower_any _ (by rw [size_list]; exact HTX.out lo) _).mono ?_; rintro e w2 ⟨rfl, hbl⟩; have hnm := own_below hT.names hbl (Nat.le_refl _); have hbw := hT.below.trans (hbl.mono hT.below.size))
                          | (at_builtin; refine wpList_append_one _ rfl _ _ 23 rfl w1.heap.size 9 i9 (.string ⟨#[]⟩) 16 Tryd.underlying23 hi9 hb0 hb1 hb2 rfl _ _ _ rfl (hnm.alloc _) w1 (hbw.alloc hbw.size _) ⟨_, 0, none⟩ (.string ⟨(low (tx ls lo)).toArray⟩) rfl (World.cell?_alloc_mark _ _ _ _ 0) rfl (by omega) (by omega) (by have := hbw.size; simp; omega) ?_))
                        intro v1 w3 hown1 hg1 hne1 hl1 hb3
                        have har := hT.args_kept hbl hg1
                        go_wp2_with (at_builtin; refine wpList_append_one _ rfl _ _ 23 rfl w1.heap.size 9 i9 (.string ⟨#[]⟩) 16 Tryd.underlying23 hi9 hb0 hb1 hb2 rfl _ _ _ rfl (har.alloc _) w1 (hb3.alloc hb3.size _) ⟨_, 0, none⟩ (.string ⟨#[]⟩) rfl (World.cell?_alloc_mark _ _ _ _ 0) rfl (by omega) (by omega) (by have := hb3.size; simp; omega) ?_)
                        intro v2 w4 hown2 hg2 hne2 hl2 hb4
                        have hT' : TwoRows w1.heap.size w1 w4 v1 v2 (acc ++ [(low (tx ls lo), [])]) := hT.push hbl hown1 hne1 hl1 hg2 hown2 hne2 hl2 hb4
                        clear hg1 hown1 hne1 hl1 hg2 hown2 hne2 hl2 hb4 hb3 har hnm hbw hbl hT
                        go_wp2
                        go_roundg (ls.length + 2 - (i + 1))
                        case measure => omega
                        case rel => exact ⟨i + 1, i + 1, acc ++ [(low (tx ls lo), [])], by omega, rfl, by omega, by simp; omega, by go_num, by go_num, hT', by intro h; rfl, by intro m h1 h2; omega, HQ⟩
                      · have HQ : Hid (pab none ls = none) := by
                          refine prel_none HS.out ?_
                          rw [e1, shape_seg1 hll1, if_neg h5]
                        have hc := kcell hokr lo hll1
                        have hkb : (kd ls lo == 5) = false := by simpa using h5
                        clear HS h5 e1
                        go_wp2
                        go_ret3
                        exact .inl ⟨by rw [HA.out, HQ.out], rfl, (hT.lower hnx).below⟩
                    · by_cases h3 : h' ≤ lo + 3 ∧ lo + 3 ≤ h'
                      · have e3 : h' = lo + 3 := by omega
                        have hll3 : lo + 2 < ls.length := by omega
                        have hc0 := kcell hokr lo (by omega)
                        have hc1 := kcell hokr (lo + 1) (by omega)
                        have hc2 := kcell hokr (lo + 2) hll3
                        obtain ⟨h3a, h3b⟩ := h3
                        by_cases hK : kd ls lo = 5 ∧ kd ls (lo + 1) = 3 ∧ (kd ls (lo + 2) = 5 ∨ kd ls (lo + 2) = 4)
                        · have HQ : Hid (prel ls (acc ++ [(low (tx ls lo), tx ls (lo + 2))]) (ls.drop (i + 1))) := by
                            refine prel_some HS.out ?_
                            rw [e3, shape_seg3 hll3, if_pos hK]
                          have hk0 : (kd ls lo == 5) = true := by simpa using hK.1
                          have hk1 : (kd ls (lo + 1) == 3) = true := by simpa using hK.2.1
                          have hk2 : (kd ls (lo + 2) == 5) = true ∨ ((kd ls (lo + 2) == 5) = false ∧ (kd ls (lo + 2) == 4) = true) := by
                            rcases hK.2.2 with h | h
                            · exact .inl (by simpa using h)
                            · exact .inr ⟨by rw [h]; rfl, by rw [h]; rfl⟩
                          have htc := tcell hotr lo (by omega)
                          clear HS hK e3
                          go_upto_region 21 with fail
                          go_cut [93] (fun b wc' => b = .bool true ∧ wc' = wc)
                          case first =>
                            rcases hk2 with hk2 | ⟨hk2, hk3⟩
                            all_goals
                              go_wp2_with fail
                              go_meet
                              case rel => exact ⟨rfl, rfl⟩
                          case rest =>
                            obtain ⟨rfl, rfl⟩ := hcut
                            clear hk2 hc0 hc1 hc2 hk0 hk1
                            go_wp2_with (first
                              | (go_at_call 15; refine (lower_any _ (by rw [size_list]; exact HTX.out lo) _).mono ?_; rintro e w2 ⟨rfl, hbl⟩; have hnm := own_below hT.names hbl (Nat.le_refl _); have hbw := hT.below.trans (hbl.mono hT.below.size))
                              | (at_builtin; refine wpList_append_one _ rfl _ _ 23 rfl w1.heap.size 9 i9 (.string ⟨#[]⟩) 16 Tryd.underlying23 hi9 hb0 hb1 hb2 rfl _ _ _ rfl (hnm.alloc _) w1 (hbw.alloc hbw.size _) ⟨_, 0, none⟩ (.string ⟨(low (tx ls lo)).toArray⟩) rfl (World.cell?_alloc_mark _ _ _ _ 0) rfl (by omega) (by omega) (by have := hbw.size; simp; omega) ?_))
                            intro v1 w3 hown1 hg1 hne1 hl1 hb3
                            have har := hT.args_kept hbl hg1
                            have htc2 := tcell (own_below hot hb3 (Nat.le_refl _)) (lo + 2) hll3
                            go_wp2_with (at_builtin; refine wpList_append_one _ rfl _ _ 23 rfl w1.heap.size 9 i9 (.string ⟨#[]⟩) 16 Tryd.underlying23 hi9 hb0 hb1 hb2 rfl _ _ _ rfl (har.alloc _) w1 (hb3.alloc hb3.size _) ⟨_, 0, none⟩ (.string ⟨(tx ls (lo + 2)).toArray⟩) rfl (World.cell?_alloc_mark _ _ _ _ 0) rfl (by omega) (by omega) (by have := hb3.size; simp; omega) ?_)
                            intro v2 w4 hown2 hg2 hne2 hl2 hb4
                            have hT' : TwoRows w1.heap.size w1 w4 v1 v2 (acc ++ [(low (tx ls lo), tx ls (lo + 2))]) := hT.push hbl hown1 hne1 hl1 hg2 hown2 hne2 hl2 hb4
                            clear hg1 hown1 hne1 hl1 hg2 hown2 hne2 hl2 hb4 hb3 har hnm hbw hbl hT htc2
                            go_wp2
                            go_roundg (ls.length + 2 - (i + 1))
                            case measure => omega
                            case rel => exact ⟨i + 1, i + 1, acc ++ [(low (tx ls lo), tx ls (lo + 2))], by omega, rfl, by omega, by simp; omega, by go_num, by go_num, hT', by intro h; rfl, by intro m h1 h2; omega, HQ⟩
                        · have HQ : Hid (pab none ls = none) := by
                            refine prel_none HS.out ?_
                            rw [e3, shape_seg3 hll3, if_neg hK]
                          have hno : (kd ls lo == 5) = false ∨ ((kd ls lo == 5) = true ∧ (kd ls (lo + 1) == 3) = false) ∨ ((kd ls lo == 5) = true ∧ (kd ls (lo + 1) == 3) = true ∧ (kd ls (lo + 2) == 5) = false ∧ (kd ls (lo + 2) == 4) = false) := by
                            simp only [beq_iff_eq, beq_eq_false_iff_ne, ne_eq]
                            omega
                          clear HS hK e3
                          rcases hno with hk0 | ⟨hk0, hk1⟩ | ⟨hk0, hk1, hk2, hk3⟩
                          all_goals
                            go_wp2
                            go_ret3
                            exact .inl ⟨by rw [HA.out, HQ.out], rfl, (hT.lower hnx).below⟩
                      · have HQ : Hid (pab none ls = none) := by
                          refine prel_none HS.out (shape_len _ ?_ ?_ ?_)
                          all_goals (rw [seg_length hh1 (by omega)]; omega)
                        clear HS
                        go_wp2
                        all_goals
                          go_ret3
                          exact .inl ⟨by rw [HA.out, HQ.out], rfl, (hT.lower hnx).below⟩
                  · have e1 : lo = h' := by omega
                    have HQ : Hid (prel ls (acc ++ []) (ls.drop (i + 1))) := by
                      refine prel_some HS.out ?_
                      rw [e1, seg_nil]
                      rfl
                    clear HS e1
                    go_wp2
                    go_roundg (ls.length + 2 - (i + 1))
                    case measure => omega
                    case rel => exact ⟨i + 1, i + 1, acc, by omega, rfl, by omega, by omega, by go_num, by go_num, hT, by intro h; rfl, by intro m h1 h2; omega, by rw [List.append_nil] at HQ; exact HQ⟩
        · have e : i = ls.length + 1 := by omega
          have hsi : st = i := HI.out e
          have HP' : Hid (pab none ls = some acc) := by
            show _ = _
            have := HP.out
            unfold prel at this
            rw [this, hsi, e, List.drop_eq_nil_of_le (by omega)]
            simp [pab]
          clear HI HK HP hsi hokr hotr e
          go_wp2
          go_ret3
          exact .inr ⟨acc, _, _, by rw [HA.out, HP'.out], rfl, hT.lower hnx⟩

end Go.Proofs.Qxb6604015aDoor
