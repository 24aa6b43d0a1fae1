import Derived.Test.Qxb6604015aDoorCalls
import Derived.Test.Qxb6604015aDoorLaws2
import Derived.Test.Qxb6604015aDoorPlain3
import Derived.Deep.DeepCutAuto
import Derived.Deep.CutBlock
namespace Go.Proofs.Qxb6604015aDoor
open Go.RowKit

theorem Tryd.info39 : (Tryd.prog.info? 39).map (fun i => (i.zero, i.size, i.bytes)) = some (some (.agg #[.string ⟨#[]⟩, .string ⟨#[]⟩]), 2, 32) := by kernel_rfl

/-- The cells of some directives: name and argument, two cells each. -/
def dv : List (Bs × Bs) → List Value
  | [] => []
  | d :: ds => .string ⟨d.1.toArray⟩ :: .string ⟨d.2.toArray⟩ :: dv ds
theorem dv_append (a b : List (Bs × Bs)) : dv (a ++ b) = dv a ++ dv b := by
  induction a with
  | nil => rfl
  | cons d a ih => simp [dv, ih]

/-- In the midst of a round: the row of directives, and the block of the one that is being read. -/
structure Mid (B : Nat) (w W : World) (vd : Value) (ds : List (Bs × Bs)) (db : Nat) (n a : ByteArray) : Prop where
  own : W.ownsRow B 39 2 vd ds.length (dv ds)
  blk : W.heap[db]? = some (.cells #[.string n, .string a] 39 (0, 0))
  ne : vd.ownBlock ≠ some db
  below : Below B w W
  hB : B ≤ db

theorem Mid.later {B : Nat} {w W W' : World} {vd : Value} {ds : List (Bs × Bs)} {db : Nat} {n a : ByteArray} (h : Mid B w W vd ds db n a) (hb : Below W.heap.size W W') (hz : B ≤ W.heap.size) : Mid B w W' vd ds db n a :=
  ⟨own_below h.own hb (Nat.le_refl _), by rw [hb.block db (lt_of_block h.blk)]; exact h.blk, h.ne, h.below.trans (hb.mono hz), h.hB⟩
theorem Mid.cell0 {B : Nat} {w W : World} {vd : Value} {ds : List (Bs × Bs)} {db : Nat} {n a : ByteArray} (h : Mid B w W vd ds db n a) : W.cell? ⟨db, 0, none⟩ = some (.string n) := by simp [World.cell?, h.blk]
theorem Mid.cell1 {B : Nat} {w W : World} {vd : Value} {ds : List (Bs × Bs)} {db : Nat} {n a : ByteArray} (h : Mid B w W vd ds db n a) : W.cell? ⟨db, 1, none⟩ = some (.string a) := by simp [World.cell?, h.blk]
theorem Mid.free {B : Nat} {w W : World} {vd : Value} {ds : List (Bs × Bs)} {db : Nat} {n a : ByteArray} (h : Mid B w W vd ds db n a) (j : Nat) : W.frozen? ⟨db, j, none⟩ = false := by simp [World.frozen?, h.blk]
theorem Mid.store0 {B : Nat} {w W : World} {vd : Value} {ds : List (Bs × Bs)} {db : Nat} {n a : ByteArray} (h : Mid B w W vd ds db n a) (n' : ByteArray) : Mid B w (W.setCell ⟨db, 0, none⟩ (.string n')) vd ds db n' a :=
  ⟨ownsRow_setCell_other h.own h.ne _, by have := heap_setCell_same W db 0 _ 39 (.string n') h.blk; simpa using this, h.ne, h.below.setCell h.hB _, h.hB⟩
theorem Mid.store1 {B : Nat} {w W : World} {vd : Value} {ds : List (Bs × Bs)} {db : Nat} {n a : ByteArray} (h : Mid B w W vd ds db n a) (a' : ByteArray) : Mid B w (W.setCell ⟨db, 1, none⟩ (.string a')) vd ds db n a' :=
  ⟨ownsRow_setCell_other h.own h.ne _, by have := heap_setCell_same W db 1 _ 39 (.string a') h.blk; simpa using this, h.ne, h.below.setCell h.hB _, h.hB⟩
theorem Mid.start {B : Nat} {w W : World} {vd : Value} {ds : List (Bs × Bs)} (h : W.ownsRow B 39 2 vd ds.length (dv ds)) (hb : Below B w W) (hz : B ≤ W.heap.size) (n a : ByteArray) : Mid B w (W.alloc (.cells #[.string n, .string a] 39)) vd ds W.heap.size n a :=
  ⟨h.alloc _, heap_alloc_new W _, fun e => by have := (h.lt _ e).2; omega, hb.alloc hz _, hz⟩

/-- What is gathered, and what is left of the line. -/
def crel (t : Bs) (acc : List (Bs × Bs)) (r : Bs) : Prop := SA t = (SA r).map (acc ++ ·)

/-- The answer of cacheDirectives. -/
def Dirs (o : Option (List (Bs × Bs))) (B : Nat) (w : World) (e : Ending) (w' : World) : Prop :=
  (o = none ∧ e = .returned (.tuple #[.slice none 0 0, .bool false]) ∧ Below B w w') ∨
  (∃ ds vd, o = some ds ∧ e = .returned (.tuple #[vd, .bool true]) ∧ w'.ownsRow B 39 2 vd ds.length (dv ds) ∧ (ds = [] → vd = .slice none 0 0) ∧ (ds ≠ [] → vd ≠ .slice none 0 0) ∧ ds.length ≤ 1073741824 ∧ Below B w w')

theorem empty_yes {b : ByteArray} (h : b.size = 0) : b.toList.isEmpty = true := by
  rw [ByteArray.toList_eq, List.eq_nil_of_length_eq_zero (l := b.data.toList) (by simpa using h)]
  rfl
theorem empty_no {b : ByteArray} (h : 0 < b.size) : b.toList.isEmpty = false := by
  rw [ByteArray.toList_eq]
  cases hb : b.data.toList with
  | nil => have := congrArg List.length hb; rw [Array.length_toList] at this; have e : b.data.size = b.size := rfl; simp only [List.length_nil] at this; omega
  | cons a l => rfl
theorem head_cons {b : ByteArray} (h : 0 < b.size) : b.data.toList = b[0] :: b.data.toList.drop 1 := by
  have := drop_idx b 0 h
  simpa using this
theorem size_of_list {b : ByteArray} {l : Bs} (h : b.data.toList = l) : b.size = l.length := by
  rw [← h]
  simp
theorem take_le (p : UInt8 → Bool) (t : Bs) : (t.takeWhile p).length + (t.dropWhile p).length = t.length := by
  have := congrArg List.length (List.takeWhile_append_dropWhile (p := p) (l := t))
  rwa [List.length_append] at this
theorem take_all (p : UInt8 → Bool) (t : Bs) : ∀ c ∈ t.takeWhile p, p c = true := by
  intro c hc
  exact List.all_eq_true.1 List.all_takeWhile c hc

/-- A directive waits for its comma. -/
def srel (t : Bs) (acc : List (Bs × Bs)) (d : Bs × Bs) (r : Bs) : Prop := SA t = (SB d r).map (acc ++ ·)
theorem srel_trim {t : Bs} {acc : List (Bs × Bs)} {d : Bs × Bs} {r r' : Bs} (h : srel t acc d r) (e : r' = r.dropWhile wsB) : srel t acc d r' := by
  unfold srel at *
  rw [h, e, SB_trim]
theorem srel_end {t : Bs} {acc : List (Bs × Bs)} {d : Bs × Bs} {r : Bs} (h : srel t acc d r) (e : r = []) : crel t (acc ++ [d]) r := by
  unfold srel at h
  unfold crel
  rw [h, e, SB_nil, SA_nil]
  simp
theorem srel_comma {t : Bs} {acc : List (Bs × Bs)} {d : Bs × Bs} {r : Bs} (h : srel t acc d (44 :: r)) : crel t (acc ++ [d]) (44 :: r) := by
  unfold srel at h
  unfold crel
  rw [h, SB_comma, Option.map_map]
  congr 1
  funext l
  simp
theorem srel_other {t : Bs} {acc : List (Bs × Bs)} {d : Bs × Bs} {c : UInt8} {r : Bs} (h : srel t acc d (c :: r)) (hw : wsB c = false) (hc : c ≠ 44) : SA t = none := by
  unfold srel at h
  rw [h, SB_other d c r hw hc]
  rfl

set_option maxRecDepth 100000 in
set_option maxHeartbeats 3200000 in
theorem cd_any (s : ByteArray) (hs : s.size ≤ 1073741824) (w : World) :
    Calls Tryd.prog 16 #[.string s] w fun e w' => Dirs (SA s.data.toList) w.heap.size w e w' := by
  obtain ⟨i39, hi, hz0, hz1, hz2⟩ := info_parts Tryd.info39
  go_enter Tryd.func16, Tryd.ntmps16
  go_wp2_with fail
  go_loopg [4, 5] s.size (fun gk vd sv wr => ∃ (b : ByteArray) (acc : List (Bs × Bs)), sv = .string b ∧ gk = b.size ∧ acc.length + b.size ≤ s.size ∧ wr.ownsRow w.heap.size 39 2 vd acc.length (dv acc) ∧ Hid (acc = [] → vd = .slice none 0 0) ∧ Hid (acc ≠ [] → vd ≠ .slice none 0 0) ∧ Below w.heap.size w wr ∧ Hid (crel s.data.toList acc b.data.toList))
  case atStart => exact ⟨s, [], rfl, rfl, by simp, World.ownsRow_nil _ _ _ _, fun _ => rfl, fun h => absurd rfl h, Below.refl _ _, by show crel _ _ _; unfold crel; simp⟩
  case round =>
    obtain ⟨b, acc, rfl, rfl, hlen, hown, HN, HNN, hnx, HC⟩ := hrel
    have hsz := hnx.size
    go_wp2_with fail
    refine (trim_any b _).mono ?_
    rintro e w1 ⟨b1, rfl, HB1, hb1⟩
    have hb1s : b1.size ≤ b.size := by
      have := drop_len wsB b.data.toList
      rw [← HB1.out] at this
      simpa using this
    have HC1 : Hid (crel s.data.toList acc b1.data.toList) := by
      show crel _ _ _
      have := HC.out
      unfold crel at *
      rw [this, HB1.out, SA_trim]
    have hnh : Hid (∀ c ∈ b1.data.toList.head?, wsB c = false) := by
      show ∀ c ∈ _, _
      rw [HB1.out]
      intro c hc
      have := List.head?_dropWhile_not wsB b.data.toList
      rw [Option.mem_def] at hc
      rw [hc] at this
      simpa using this
    have hown1 := own_below hown hb1 (Nat.le_refl _)
    have hnx1 := hnx.trans (hb1.mono hsz)
    clear HB1 HC hown hnx hb1
    by_cases h0 : b1.size = 0
    · have HF : Hid (SA s.data.toList = some acc) := by
        show _ = _
        have := HC1.out
        unfold crel at this
        rw [this, show b1.data.toList = [] from List.eq_nil_of_length_eq_zero (by simpa using h0), SA_nil]
        simp
      have he := empty_yes h0
      clear h0 HC1 hnh
      go_wp2
      go_ret2
      exact .inr ⟨acc, _, HF.out, rfl, hown1, HN.out, HNN.out, by omega, hnx1⟩
    · have hp : 0 < b1.size := by omega
      have he := empty_no hp
      clear h0
      by_cases h44 : ((b1[0].toNat : Int) == 44) = true
      · have HC2 : Hid (crel s.data.toList acc (b1.extract 1 b1.size).data.toList) := by
          show crel _ _ _
          have e : b1[0] = 44 := byte_of_num (n := 44) (by simpa using h44) (by decide)
          have := HC1.out
          unfold crel at *
          rw [head_cons hp, e, SA_comma] at this
          rw [this, extract_drop]
        clear HC1 hnh
        go_wp2
        go_roundg (b1.size - 1)
        case measure => omega
        case rel => exact ⟨_, acc, rfl, by simp, by simp; omega, hown1, HN, HNN, hnx1, HC2⟩
      · have h44' : ((b1[0].toNat : Int) == 44) = false := by simpa using h44
        have HH : Hid (wsB b1[0] = false ∧ b1[0] ≠ 44) := by
          refine ⟨hnh.out _ (by rw [head_cons hp]; rfl), fun e => h44 (by rw [e]; rfl)⟩
        clear hnh h44
        have hB1 : b1.size ≤ 1073741824 := by omega
        by_cases htk : b1.data.toList.takeWhile tokB = []
        · have HF : Hid (SA s.data.toList = none) := by
            show _ = _
            have ht : tokB b1[0] = false := by
              rw [head_cons hp] at htk
              by_cases h : tokB b1[0] = true
              · rw [List.takeWhile_cons_of_pos h] at htk
                cases htk
              · simpa using h
            have := HC1.out
            unfold crel at this
            rw [this, head_cons hp, SA_notok _ _ HH.out.1 HH.out.2 ht]
            rfl
          have HT : Hid (b1.data.toList.takeWhile tokB = []) := htk
          clear htk HC1 HH
          go_wp2_with fail
          refine (cutTok_no b1 hB1 HT.out _).mono ?_
          rintro e w2 ⟨t, r, rfl, hb2⟩
          have hM := (Mid.start hown1 hnx1 hnx1.size ⟨#[]⟩ ⟨#[]⟩).later hb2 (by have := hnx1.size; simp; omega)
          have hc0 := hM.cell0
          have hf0 := hM.free 0
          have hz := lt_of_block hM.blk
          go_wp2
          go_ret2
          exact .inl ⟨HF.out, rfl, (hM.store0 t).below⟩
        · go_wp2_with fail
          refine (cutTok_yes b1 hB1 htk _).mono ?_
          rintro e w2 ⟨t, r, rfl, HTt, HTr, hb2⟩
          have hM := (Mid.start hown1 hnx1 hnx1.size ⟨#[]⟩ ⟨#[]⟩).later hb2 (by have := hnx1.size; simp; omega)
          have hM1 := hM.store0 t
          have hc0 := hM.cell0
          have hf0 := hM.free 0
          have hz := lt_of_block hM.blk
          have hc1 := hM1.cell0
          clear hb2 hown1 hnx1
          have hts : t.size + r.size = b1.size := by
            have h1 := size_of_list HTt.out
            have h2 := size_of_list HTr.out
            have h3 := take_le tokB b1.data.toList
            have h4 : b1.data.toList.length = b1.size := by simp
            omega
          have htp : 0 < t.size := by
            have h1 := size_of_list HTt.out
            have : 0 < (b1.data.toList.takeWhile tokB).length := List.length_pos_iff.2 htk
            omega
          have HTok : Hid (∀ c ∈ t.data.toList, tokB c = true) := by
            show ∀ c ∈ _, _
            rw [HTt.out]
            exact take_all tokB _
          have HT0 : Hid (tokB b1[0] = true) := by
            show _ = _
            rw [head_cons hp] at htk
            by_cases h : tokB b1[0] = true
            · exact h
            · rw [List.takeWhile_cons_of_neg h] at htk
              exact absurd rfl htk
          clear htk
          go_wp2_with fail
          refine (lowT_any t (by omega) HTok.out _).mono ?_
          rintro e w3 ⟨nm, rfl, HNm, hb3⟩
          have hM3 := hM1.later hb3 hM1.below.size
          have hM4 := hM3.store0 nm
          have hd0 := hM3.cell0
          have hd1 := hM3.free 0
          have hz3 := lt_of_block hM3.blk
          clear hM hM1 hc0 hf0 hz hc1 hb3
          have HL : Hid (∀ l, b1.data.toList.drop 1 = l → nm.data.toList = low (b1[0] :: l.takeWhile tokB) ∧ r.data.toList = l.dropWhile tokB) := by
            intro l hl
            subst hl
            rw [HNm.out, HTt.out, HTr.out, head_cons hp, List.takeWhile_cons_of_pos HT0.out, List.dropWhile_cons_of_pos HT0.out]
            simp
          by_cases h61 : r.data.toList.head? = some 61
          · obtain ⟨r1, hr1⟩ : ∃ r1, r.data.toList = 61 :: r1 := by
              cases hh : r.data.toList with
              | nil => rw [hh] at h61; cases h61
              | cons a l => rw [hh] at h61; simp at h61; exact ⟨l, by rw [h61]⟩
            have HR1 : Hid (r.data.toList = 61 :: r1) := hr1
            have hrs : r.size = r1.length + 1 := by rw [size_of_list hr1]; simp
            clear hr1 h61
            go_wp2_with fail
            refine (cutEq_yes r r1 HR1.out _).mono ?_
            rintro e w4 ⟨b', rfl, HB', rfl⟩
            have hb's : b'.size = r1.length := size_of_list HB'.out
            by_cases h34 : r1.head? = some 34
            · obtain ⟨r2, hr2⟩ : ∃ r2, r1 = 34 :: r2 := by
                cases hh : r1 with
                | nil => rw [hh] at h34; cases h34
                | cons a l => rw [hh] at h34; simp at h34; exact ⟨l, by rw [h34]⟩
              have HB2 : Hid (b'.data.toList = 34 :: r2) := by show _ = _; rw [HB'.out, hr2]
              have HX : Hid (SA s.data.toList = ((qs false r2).bind fun p => SB (nm.data.toList, p.1) p.2).map (acc ++ ·)) := by
                show _ = _
                have h1 := HC1.out
                unfold crel at h1
                have h2 := HL.out _ rfl
                rw [h1, head_cons hp, SA_tok_quo _ _ r2 HT0.out (by rw [← h2.2, HR1.out, hr2]), h2.1]
              clear h34 hr2 HB' HC1 HL HTok HT0 HTt HTr HNm HH HR1
              cases hq : qs false r2 with
              | none =>
                have HF : Hid (SA s.data.toList = none) := by show _ = _; rw [HX.out, hq]; rfl
                have HQ : Hid (qs false r2 = none) := hq
                clear hq HX
                go_wp2_with fail
                refine (hasQ_yes b' r2 HB2.out _).mono ?_
                rintro e w5 ⟨rfl, rfl⟩
                go_wp2_with fail
                refine (cq_none b' (by omega) r2 HB2.out HQ.out _).mono ?_
                rintro e w5 ⟨rfl, hb5⟩
                have hM5 := hM4.later hb5 hM4.below.size
                have hq1 := hM5.cell1
                have hf1 := hM5.free 1
                have hz5 := lt_of_block hM5.blk
                go_wp2
                go_ret2
                exact .inl ⟨HF.out, rfl, (hM5.store1 ⟨#[]⟩).below⟩
              | some p =>
                obtain ⟨x, q⟩ := p
                have hql := (qs_len _ _ _ _ hq).1
                have hb'2 : b'.size = r2.length + 1 := by rw [size_of_list HB2.out]; simp
                have HQ : Hid (qs false r2 = some (x, q)) := hq
                have HS0 : Hid (srel s.data.toList acc (nm.data.toList, x) q) := by show srel _ _ _ _; unfold srel; rw [HX.out, hq]; rfl
                clear hq HX
                go_wp2_with fail
                refine (hasQ_yes b' r2 HB2.out _).mono ?_
                rintro e w5 ⟨rfl, rfl⟩
                go_wp2_with fail
                refine (cq_some b' (by omega) r2 HB2.out x q HQ.out _).mono ?_
                rintro e w5 ⟨bx, bq, rfl, HBX, HBQ, hb5⟩
                have hbq : bq.size = q.length := size_of_list HBQ.out
                have HS : Hid (srel s.data.toList acc (nm.data.toList, bx.data.toList) bq.data.toList) := by show srel _ _ _ _; rw [HBX.out, HBQ.out]; exact HS0.out
                have hM6 := hM4.later hb5 hM4.below.size
                have hq3 := hM6.cell1
                have hf3 := hM6.free 1
                have hz6 := lt_of_block hM6.blk
                have hsz5 : w.heap.size ≤ w5.heap.size := hM6.below.size
                have hM5 := hM6.store1 bx
                clear hM3 hM4 hM6 hd0 hd1 hb5 HS0 HQ HBX HBQ HB2
                have hq0 := hM5.cell0
                have hq1 := hM5.cell1
                have hz5 := lt_of_block hM5.blk
                go_wp2_with (at_builtin; refine wpList_append_pair _ rfl _ _ 35 rfl w.heap.size 39 i39 (.agg #[.string ⟨#[]⟩, .string ⟨#[]⟩]) 32 Tryd.underlying35 hi hz0 hz1 hz2 rfl _ _ _ rfl (hM5.own.alloc _) w (hM5.below.alloc hM5.below.size _) _ (.string nm) (.string bx) rfl (heap_new_at (by simp)) rfl rfl (by omega) (by omega) (by simp; omega) ?_)
                intro v' w6 hown6 hg6 hne6 hl6 hb6
                clear hg6 hl6 hM5 hq0 hq1 hz5
                go_wp2_with fail
                refine (trim_any bq _).mono ?_
                rintro e w7 ⟨q1, rfl, HQ1, hb7⟩
                have hown7 := own_below hown6 hb7 (Nat.le_refl _)
                have hnx7 := hb6.trans (hb7.mono hb6.size)
                have hq1s : q1.size ≤ bq.size := by
                  have := drop_len wsB bq.data.toList
                  rw [← HQ1.out] at this
                  simpa using this
                have HS1 : Hid (srel s.data.toList acc (nm.data.toList, bx.data.toList) q1.data.toList) := srel_trim HS.out HQ1.out
                have hdv : dv (acc ++ [(nm.data.toList, bx.data.toList)]) = dv acc ++ [.string nm, .string bx] := by rw [dv_append]; rfl
                have hown8 : w7.ownsRow w.heap.size 39 2 v' (acc ++ [(nm.data.toList, bx.data.toList)]).length (dv (acc ++ [(nm.data.toList, bx.data.toList)])) := by rw [hdv]; simpa using hown7
                have hnh : Hid (∀ c ∈ q1.data.toList.head?, wsB c = false) := by
                  show ∀ c ∈ _, _
                  rw [HQ1.out]
                  intro c hc
                  have := List.head?_dropWhile_not wsB bq.data.toList
                  rw [Option.mem_def] at hc
                  rw [hc] at this
                  simpa using this
                clear hown6 hb6 hb7 HQ1 HS hdv hown7
                by_cases hq0 : q1.size = 0
                · have hqe := empty_yes hq0
                  have HC3 : Hid (crel s.data.toList (acc ++ [(nm.data.toList, bx.data.toList)]) q1.data.toList) := srel_end HS1.out (List.eq_nil_of_length_eq_zero (by simpa using hq0))
                  clear HS1
                  go_wp2
                  go_roundg q1.size
                  case measure => omega
                  case rel => exact ⟨q1, _, rfl, rfl, by simp; omega, hown8, fun h => by simp at h, fun _ => hne6, hnx7, HC3⟩
                · have hqp : 0 < q1.size := by omega
                  have hqe := empty_no hqp
                  by_cases hq44 : ((q1[0].toNat : Int) != 44) = true
                  · have HF : Hid (SA s.data.toList = none) := by
                      have h1 := HS1.out
                      rw [head_cons hqp] at h1
                      refine srel_other h1 (hnh.out _ (by rw [head_cons hqp]; rfl)) fun e => ?_
                      rw [e] at hq44
                      simp at hq44
                    clear HS1 hnh
                    go_wp2
                    go_ret2
                    exact .inl ⟨HF.out, rfl, hnx7⟩
                  · have hq44' : ((q1[0].toNat : Int) != 44) = false := by simpa using hq44
                    have HC3 : Hid (crel s.data.toList (acc ++ [(nm.data.toList, bx.data.toList)]) q1.data.toList) := by
                      have e : q1[0] = 44 := byte_of_num (n := 44) (by simpa using hq44') (by decide)
                      have h1 := HS1.out
                      rw [head_cons hqp, e] at h1
                      have h2 := srel_comma h1
                      rw [← e, ← head_cons hqp] at h2
                      exact h2
                    clear HS1 hnh hq44
                    go_wp2
                    go_roundg q1.size
                    case measure => omega
                    case rel => exact ⟨q1, _, rfl, rfl, by simp; omega, hown8, fun h => by simp at h, fun _ => hne6, hnx7, HC3⟩
            · have HF0 : Hid (r1.head? ≠ some 34) := h34
              clear h34
              by_cases htk2 : r1.takeWhile tokB = []
              · have HF : Hid (SA s.data.toList = none) := by
                  show _ = _
                  have h1 := HC1.out
                  unfold crel at h1
                  have h2 := HL.out _ rfl
                  rw [h1, head_cons hp, SA_tok_bad _ _ r1 HT0.out (by rw [← h2.2, HR1.out]) HF0.out htk2]
                  rfl
                have HQ : Hid (b'.data.toList.takeWhile tokB = []) := by show _ = _; rw [HB'.out]; exact htk2
                have HB2 : Hid (b'.data.toList.head? ≠ some 34) := by show _ ≠ _; rw [HB'.out]; exact HF0.out
                clear htk2 HF0 HC1 HL
                go_wp2_with fail
                refine (hasQ_no b' HB2.out _).mono ?_
                rintro e w5 ⟨rfl, rfl⟩
                go_wp2_with fail
                refine (cutTok_no b' (by omega) HQ.out _).mono ?_
                rintro e w5 ⟨t2, r2, rfl, hb5⟩
                have hM5 := hM4.later hb5 hM4.below.size
                have hq1 := hM5.cell1
                have hf1 := hM5.free 1
                have hz5 := lt_of_block hM5.blk
                go_wp2
                go_ret2
                exact .inl ⟨HF.out, rfl, (hM5.store1 t2).below⟩
              · have HS0 : Hid (srel s.data.toList acc (nm.data.toList, r1.takeWhile tokB) (r1.dropWhile tokB)) := by
                  show srel _ _ _ _
                  have h1 := HC1.out
                  unfold crel at h1
                  unfold srel
                  have h2 := HL.out _ rfl
                  cases hr : r1 with
                  | nil => rw [hr] at htk2; exact absurd rfl htk2
                  | cons d l =>
                    have hd : tokB d = true := by
                      rw [hr] at htk2
                      by_cases h : tokB d = true
                      · exact h
                      · rw [List.takeWhile_cons_of_neg h] at htk2
                        exact absurd rfl htk2
                    rw [h1, head_cons hp, SA_tok_tok _ d _ l HT0.out hd (by rw [← h2.2, HR1.out, hr]), h2.1, List.takeWhile_cons_of_pos hd, List.dropWhile_cons_of_pos hd]
                have HQ : Hid (b'.data.toList.takeWhile tokB ≠ []) := by show _ ≠ _; rw [HB'.out]; exact htk2
                have HB2 : Hid (b'.data.toList.head? ≠ some 34) := by show _ ≠ _; rw [HB'.out]; exact HF0.out
                clear htk2 HF0 HC1 HL
                go_wp2_with fail
                refine (hasQ_no b' HB2.out _).mono ?_
                rintro e w5 ⟨rfl, rfl⟩
                go_wp2_with fail
                refine (cutTok_yes b' (by omega) HQ.out _).mono ?_
                rintro e w5 ⟨t2, r2, rfl, HT2, HR2, hb5⟩
                have hr2s : r2.size ≤ b'.size := by
                  have := drop_len tokB b'.data.toList
                  rw [← HR2.out] at this
                  simpa using this
                have HS : Hid (srel s.data.toList acc (nm.data.toList, t2.data.toList) r2.data.toList) := by show srel _ _ _ _; rw [HT2.out, HR2.out, HB'.out]; exact HS0.out
                have hM6 := hM4.later hb5 hM4.below.size
                have hq3 := hM6.cell1
                have hf3 := hM6.free 1
                have hz6 := lt_of_block hM6.blk
                have hsz5 : w.heap.size ≤ w5.heap.size := hM6.below.size
                have hM5 := hM6.store1 t2
                clear hM3 hM4 hM6 hd0 hd1 hb5 HS0 HQ HT2 HR2 HB2 HB' HR1 HTok HT0 HTt HTr HNm HH
                have hq0 := hM5.cell0
                have hq1 := hM5.cell1
                have hz5 := lt_of_block hM5.blk
                go_wp2_with (at_builtin; refine wpList_append_pair _ rfl _ _ 35 rfl w.heap.size 39 i39 (.agg #[.string ⟨#[]⟩, .string ⟨#[]⟩]) 32 Tryd.underlying35 hi hz0 hz1 hz2 rfl _ _ _ rfl (hM5.own.alloc _) w (hM5.below.alloc hM5.below.size _) _ (.string nm) (.string t2) rfl (heap_new_at (by simp)) rfl rfl (by omega) (by omega) (by simp; omega) ?_)
                intro v' w6 hown6 hg6 hne6 hl6 hb6
                clear hg6 hl6 hM5 hq0 hq1 hz5
                go_wp2_with fail
                refine (trim_any r2 _).mono ?_
                rintro e w7 ⟨q1, rfl, HQ1, hb7⟩
                have hown7 := own_below hown6 hb7 (Nat.le_refl _)
                have hnx7 := hb6.trans (hb7.mono hb6.size)
                have hq1s : q1.size ≤ r2.size := by
                  have := drop_len wsB r2.data.toList
                  rw [← HQ1.out] at this
                  simpa using this
                have HS1 : Hid (srel s.data.toList acc (nm.data.toList, t2.data.toList) q1.data.toList) := srel_trim HS.out HQ1.out
                have hdv : dv (acc ++ [(nm.data.toList, t2.data.toList)]) = dv acc ++ [.string nm, .string t2] := by rw [dv_append]; rfl
                have hown8 : w7.ownsRow w.heap.size 39 2 v' (acc ++ [(nm.data.toList, t2.data.toList)]).length (dv (acc ++ [(nm.data.toList, t2.data.toList)])) := by rw [hdv]; simpa using hown7
                have hnh : Hid (∀ c ∈ q1.data.toList.head?, wsB c = false) := by
                  show ∀ c ∈ _, _
                  rw [HQ1.out]
                  intro c hc
                  have := List.head?_dropWhile_not wsB r2.data.toList
                  rw [Option.mem_def] at hc
                  rw [hc] at this
                  simpa using this
                clear hown6 hb6 hb7 HQ1 HS hdv hown7
                by_cases hq0 : q1.size = 0
                · have hqe := empty_yes hq0
                  have HC3 : Hid (crel s.data.toList (acc ++ [(nm.data.toList, t2.data.toList)]) q1.data.toList) := srel_end HS1.out (List.eq_nil_of_length_eq_zero (by simpa using hq0))
                  clear HS1
                  go_wp2
                  go_roundg q1.size
                  case measure => omega
                  case rel => exact ⟨q1, _, rfl, rfl, by simp; omega, hown8, fun h => by simp at h, fun _ => hne6, hnx7, HC3⟩
                · have hqp : 0 < q1.size := by omega
                  have hqe := empty_no hqp
                  by_cases hq44 : ((q1[0].toNat : Int) != 44) = true
                  · have HF : Hid (SA s.data.toList = none) := by
                      have h1 := HS1.out
                      rw [head_cons hqp] at h1
                      refine srel_other h1 (hnh.out _ (by rw [head_cons hqp]; rfl)) fun e => ?_
                      rw [e] at hq44
                      simp at hq44
                    clear HS1 hnh
                    go_wp2
                    go_ret2
                    exact .inl ⟨HF.out, rfl, hnx7⟩
                  · have hq44' : ((q1[0].toNat : Int) != 44) = false := by simpa using hq44
                    have HC3 : Hid (crel s.data.toList (acc ++ [(nm.data.toList, t2.data.toList)]) q1.data.toList) := by
                      have e : q1[0] = 44 := byte_of_num (n := 44) (by simpa using hq44') (by decide)
                      have h1 := HS1.out
                      rw [head_cons hqp, e] at h1
                      have h2 := srel_comma h1
                      rw [← e, ← head_cons hqp] at h2
                      exact h2
                    clear HS1 hnh hq44
                    go_wp2
                    go_roundg q1.size
                    case measure => omega
                    case rel => exact ⟨q1, _, rfl, rfl, by simp; omega, hown8, fun h => by simp at h, fun _ => hne6, hnx7, HC3⟩
          · go_wp2_with fail
            refine (cutEq_no r h61 _).mono ?_
            rintro e w4 ⟨b', rfl, rfl⟩
            have HS : Hid (srel s.data.toList acc (nm.data.toList, (⟨#[]⟩ : ByteArray).data.toList) r.data.toList) := by
              show srel _ _ _ _
              have h1 := HC1.out
              unfold crel at h1
              unfold srel
              have h2 := HL.out _ rfl
              rw [h1, head_cons hp, SA_tok_bare _ _ HT0.out (by rw [← h2.2]; exact h61), h2.1, h2.2]
            have hsz5 : w.heap.size ≤ w3.heap.size := hM3.below.size
            have hM5 : Mid w.heap.size w _ u4 acc w1.heap.size nm ⟨#[]⟩ := hM4
            clear hM3 hM4 hd0 hd1 HC1 HL h61 HTok HT0 HTt HTr HNm HH
            have hq0 := hM5.cell0
            have hq1 := hM5.cell1
            have hz5 := lt_of_block hM5.blk
            go_wp2_with (at_builtin; refine wpList_append_pair _ rfl _ _ 35 rfl w.heap.size 39 i39 (.agg #[.string ⟨#[]⟩, .string ⟨#[]⟩]) 32 Tryd.underlying35 hi hz0 hz1 hz2 rfl _ _ _ rfl (hM5.own.alloc _) w (hM5.below.alloc hM5.below.size _) _ (.string nm) (.string (⟨#[]⟩ : ByteArray)) rfl (heap_new_at (by simp)) rfl rfl (by omega) (by omega) (by simp; omega) ?_)
            intro v' w6 hown6 hg6 hne6 hl6 hb6
            clear hg6 hl6 hM5 hq0 hq1 hz5
            go_wp2_with fail
            refine (trim_any r _).mono ?_
            rintro e w7 ⟨q1, rfl, HQ1, hb7⟩
            have hown7 := own_below hown6 hb7 (Nat.le_refl _)
            have hnx7 := hb6.trans (hb7.mono hb6.size)
            have hq1s : q1.size ≤ r.size := by
              have := drop_len wsB r.data.toList
              rw [← HQ1.out] at this
              simpa using this
            have HS1 : Hid (srel s.data.toList acc (nm.data.toList, (⟨#[]⟩ : ByteArray).data.toList) q1.data.toList) := srel_trim HS.out HQ1.out
            have hdv : dv (acc ++ [(nm.data.toList, (⟨#[]⟩ : ByteArray).data.toList)]) = dv acc ++ [.string nm, .string (⟨#[]⟩ : ByteArray)] := by rw [dv_append]; rfl
            have hown8 : w7.ownsRow w.heap.size 39 2 v' (acc ++ [(nm.data.toList, (⟨#[]⟩ : ByteArray).data.toList)]).length (dv (acc ++ [(nm.data.toList, (⟨#[]⟩ : ByteArray).data.toList)])) := by rw [hdv]; simpa using hown7
            have hnh : Hid (∀ c ∈ q1.data.toList.head?, wsB c = false) := by
              show ∀ c ∈ _, _
              rw [HQ1.out]
              intro c hc
              have := List.head?_dropWhile_not wsB r.data.toList
              rw [Option.mem_def] at hc
              rw [hc] at this
              simpa using this
            clear hown6 hb6 hb7 HQ1 HS hdv hown7
            by_cases hq0 : q1.size = 0
            · have hqe := empty_yes hq0
              have HC3 : Hid (crel s.data.toList (acc ++ [(nm.data.toList, (⟨#[]⟩ : ByteArray).data.toList)]) q1.data.toList) := srel_end HS1.out (List.eq_nil_of_length_eq_zero (by simpa using hq0))
              clear HS1
              go_wp2
              go_roundg q1.size
              case measure => omega
              case rel => exact ⟨q1, _, rfl, rfl, by simp; omega, hown8, fun h => by simp at h, fun _ => hne6, hnx7, HC3⟩
            · have hqp : 0 < q1.size := by omega
              have hqe := empty_no hqp
              by_cases hq44 : ((q1[0].toNat : Int) != 44) = true
              · have HF : Hid (SA s.data.toList = none) := by
                  have h1 := HS1.out
                  rw [head_cons hqp] at h1
                  refine srel_other h1 (hnh.out _ (by rw [head_cons hqp]; rfl)) fun e => ?_
                  rw [e] at hq44
                  simp at hq44
                clear HS1 hnh
                go_wp2
                go_ret2
                exact .inl ⟨HF.out, rfl, hnx7⟩
              · have hq44' : ((q1[0].toNat : Int) != 44) = false := by simpa using hq44
                have HC3 : Hid (crel s.data.toList (acc ++ [(nm.data.toList, (⟨#[]⟩ : ByteArray).data.toList)]) q1.data.toList) := by
                  have e : q1[0] = 44 := byte_of_num (n := 44) (by simpa using hq44') (by decide)
                  have h1 := HS1.out
                  rw [head_cons hqp, e] at h1
                  have h2 := srel_comma h1
                  rw [← e, ← head_cons hqp] at h2
                  exact h2
                clear HS1 hnh hq44
                go_wp2
                go_roundg q1.size
                case measure => omega
                case rel => exact ⟨q1, _, rfl, rfl, by simp; omega, hown8, fun h => by simp at h, fun _ => hne6, hnx7, HC3⟩

end Go.Proofs.Qxb6604015aDoor
