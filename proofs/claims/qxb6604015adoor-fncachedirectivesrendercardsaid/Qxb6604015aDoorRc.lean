import Derived.Test.Qxb6604015aDoorRb
namespace Go.Proofs.Qxb6604015aDoor
open Go.RowKit

/-- The items of three lists. -/
def items (xs ys : List ByteArray) (bs : List Bool) : List Item := (xs.zip (ys.zip bs)).map fun a => (a.1.data.toList, a.2.1.data.toList, a.2.2)
theorem items_length (xs ys : List ByteArray) (bs : List Bool) (h1 : ys.length = xs.length) (h2 : bs.length = xs.length) : (items xs ys bs).length = xs.length := by
  simp [items, h1, h2]
theorem items_at (xs ys : List ByteArray) (bs : List Bool) (k : Nat) (h : k < xs.length) (h1 : k < ys.length) (h2 : k < bs.length) : (items xs ys bs)[k]? = some (xs[k].data.toList, ys[k].data.toList, bs[k]) := by
  rw [List.getElem?_eq_getElem (by simp [items]; omega)]
  simp [items]
theorem items_take (xs ys : List ByteArray) (bs : List Bool) (k : Nat) (h : k < xs.length) (h1 : k < ys.length) (h2 : k < bs.length) : (items xs ys bs).take (k + 1) = (items xs ys bs).take k ++ [(xs[k].data.toList, ys[k].data.toList, bs[k])] := by
  rw [List.take_add_one, items_at xs ys bs k h h1 h2]
  rfl

theorem render_part (pad : Bs) (ds : List Item) (k : Nat) : (renderAll pad (ds.take k)).length ≤ (renderAll pad ds).length := by
  have := congrArg List.length (renderAll_append pad (ds.take k) (ds.drop k))
  rw [List.take_append_drop, List.length_append] at this
  omega

theorem esc_pos {t : Bs} (h : t ≠ []) : 1 ≤ (esc t).length := by
  cases t with
  | nil => exact absurd rfl h
  | cons c t =>
    simp only [esc]
    split <;> simp

def GotL (w : World) (l : Bs) (e : Ending) (w' : World) : Prop := ∃ v', e = .returned v' ∧ w'.ownsRow w.heap.size 5 1 v' l.length (bv l) ∧ Below w.heap.size w w'

theorem empty_y {b : ByteArray} (h : b.size = 0) : b.toList.isEmpty = true := by
  rw [ByteArray.toList_eq, List.eq_nil_of_length_eq_zero (l := b.data.toList) (by simpa using h)]
  rfl
theorem empty_n {b : ByteArray} (h : 0 < b.size) : b.toList.isEmpty = false := by
  rw [ByteArray.toList_eq]
  cases hb : b.data.toList with
  | nil => have := size_zero hb; omega
  | cons a l => rfl
theorem size_len (s : ByteArray) : s.data.toList.length = s.size := by simp

set_option maxRecDepth 100000 in
set_option maxHeartbeats 1600000 in
theorem renderLine_any (xs ys : List ByteArray) (bs : List Bool) (pad : ByteArray) (v1 v2 v3 : Value) (w : World) (h1 : VS w v1 xs) (h2 : VS w v2 ys) (h3 : VB w v3 bs)
    (hl1 : ys.length = xs.length) (hl2 : bs.length = xs.length) (hxl : xs.length ≤ 65536) (hys : ∀ k (h : k < ys.length), ys[k].size ≤ 1048576) (hM : (renderAll pad.data.toList (items xs ys bs)).length + pad.size ≤ 67108864) :
    Calls Tryd.prog 14 #[v1, v2, v3, .string pad] w fun e w' => GotL w (44 :: (renderAll pad.data.toList (items xs ys bs) ++ pad.data.toList)) e w' := by
  obtain ⟨i5, hi, hz0, hz1, hz2⟩ := info_parts Tryd.rinfo5
  obtain ⟨ao, cap, rfl, hc⟩ := h1
  have HX : Hid (∀ k (h : k < xs.length), ∃ b off, ao = some ⟨b, off, none⟩ ∧ b < w.heap.size ∧ w.cell? ⟨b, off + k, none⟩ = some (.string xs[k])) := hc
  obtain ⟨ao2, cap2, rfl, hc2⟩ := h2
  have HY : Hid (∀ k (h : k < ys.length), ∃ b off, ao2 = some ⟨b, off, none⟩ ∧ b < w.heap.size ∧ w.cell? ⟨b, off + k, none⟩ = some (.string ys[k])) := hc2
  obtain ⟨ao3, cap3, rfl, hc3⟩ := h3
  have HZ : Hid (∀ k (h : k < bs.length), ∃ b off, ao3 = some ⟨b, off, none⟩ ∧ b < w.heap.size ∧ w.cell? ⟨b, off + k, none⟩ = some (.bool bs[k])) := hc3
  have HYS : Hid (∀ k (h : k < ys.length), ys[k].size ≤ 1048576) := hys
  have HL1 : Hid (ys.length = xs.length) := hl1
  have HL2 : Hid (bs.length = xs.length) := hl2
  have HM : Hid ((renderAll pad.data.toList (items xs ys bs)).length + pad.size ≤ 67108864) := hM
  clear hc hc2 hc3 hys hl1 hl2 hM
  go_enter Tryd.func14, Tryd.ntmps14
  go_wp2_with fail
  go_loopw [9, 10] (fun v iv wr => ∃ (k : Nat) (l : Bs), k ≤ xs.length ∧ iv = .int .i64 k ∧ Hid (l = 44 :: renderAll pad.data.toList ((items xs ys bs).take k)) ∧ BRow w.heap.size 5 w wr v l) (fun _ iv _ => xs.length - (intOf iv).toNat)
  case atStart => exact ⟨0, [44], Nat.zero_le _, rfl, rfl, World.ownsRow_lit w #[.int .u8 44] 1 (Nat.le_refl _) (by unfold maxLen; decide) rfl, (Below.refl _ _).alloc (Nat.le_refl _) _, by simp⟩
  case round =>
    obtain ⟨k, l, hk, rfl, HL, hR⟩ := hrel
    by_cases hlt : k < xs.length
    · have hky : k < ys.length := by rw [HL1.out]; exact hlt
      have hkb : k < bs.length := by rw [HL2.out]; exact hlt
      obtain ⟨b1, o1, rfl, hbl1, hcell1⟩ := HX.out k hlt
      obtain ⟨b2, o2, rfl, hbl2, hcell2⟩ := HY.out k hky
      obtain ⟨b3, o3, rfl, hbl3, hcell3⟩ := HZ.out k hkb
      obtain ⟨x, hx⟩ : ∃ x, x = xs[k] := ⟨_, rfl⟩
      obtain ⟨y, hy⟩ : ∃ y, y = ys[k] := ⟨_, rfl⟩
      obtain ⟨q, hq⟩ : ∃ q, q = bs[k] := ⟨_, rfl⟩
      have hyl : y.size ≤ 1048576 := by rw [hy]; exact HYS.out k hky
      have HT : Hid ((items xs ys bs).take (k + 1) = (items xs ys bs).take k ++ [(x.data.toList, y.data.toList, q)]) := by rw [hx, hy, hq]; exact items_take xs ys bs k hlt hky hkb
      have hlen : l.length + 2 * pad.size + x.size + (argPart y.data.toList q).length ≤ 67108864 := by
        have a1 := render_part pad.data.toList (items xs ys bs) (k + 1)
        have a2 := congrArg List.length (renderAll_append pad.data.toList ((items xs ys bs).take k) [(x.data.toList, y.data.toList, q)])
        rw [← HT.out] at a2
        have a3 := HM.out
        have a4 := congrArg List.length HL.out
        simp only [renderAll, renderD, List.length_append, List.length_cons, List.length_nil, size_len] at a1 a2 a3 a4
        omega
      rw [← hx] at hcell1
      rw [← hy] at hcell2
      rw [← hq] at hcell3
      have c1 : ∀ W, Below w.heap.size w W → W.cell? ⟨b1, o1 + k, none⟩ = some (.string x) := fun W hW => by rw [hW.cell (p := ⟨b1, o1 + k, none⟩) hbl1]; exact hcell1
      have c2 : ∀ W, Below w.heap.size w W → W.cell? ⟨b2, o2 + k, none⟩ = some (.string y) := fun W hW => by rw [hW.cell (p := ⟨b2, o2 + k, none⟩) hbl2]; exact hcell2
      have c3 : ∀ W, Below w.heap.size w W → W.cell? ⟨b3, o3 + k, none⟩ = some (.bool q) := fun W hW => by rw [hW.cell (p := ⟨b3, o3 + k, none⟩) hbl3]; exact hcell3
      have C1 : Hid (∀ W, Below w.heap.size w W → W.cell? ⟨b1, o1 + k, none⟩ = some (.string x)) := c1
      have C2 : Hid (∀ W, Below w.heap.size w W → W.cell? ⟨b2, o2 + k, none⟩ = some (.string y)) := c2
      have C3 : Hid (∀ W, Below w.heap.size w W → W.cell? ⟨b3, o3 + k, none⟩ = some (.bool q)) := c3
      clear c1 c2 c3 hcell1 hcell2 hcell3 hx hy hq
      go_wp2_with (at_builtin; refine wpList_bytes_string _ rfl _ _ 32 9 rfl w.heap.size 5 i5 Tryd.underlying32 Tryd.underlying9 hi hz0 hz1 hz2 _ _ rfl w hR pad rfl (by omega) ?_)
      intro v1 w1 hR1
      have d1 := C1.out w1 hR1.below
      clear hR
      go_wp2_with (at_builtin; refine wpList_bytes_string _ rfl _ _ 32 9 rfl w.heap.size 5 i5 Tryd.underlying32 Tryd.underlying9 hi hz0 hz1 hz2 _ _ rfl w hR1 x rfl (by simp; omega) ?_)
      intro v2 w2 hR2
      have d2 := C3.out w2 hR2.below
      have d3 := C2.out w2 hR2.below
      clear hR1 d1
      cases q with
      | true =>
        have hal : (argPart y.data.toList true).length = (esc y.data.toList).length + 3 := by simp [argPart]
        go_wp2_with (at_builtin; refine wpList_bytes_row _ rfl _ _ 32 rfl w.heap.size 5 i5 Tryd.underlying32 hi hz0 hz1 hz2 _ _ rfl w (hR2.alloc _) _ 2 2 rfl _ _ _ (heap_new_at rfl) [61, 34] rfl rfl (by simp; omega) ?_)
        intro v3 w3 hR3
        have d4 := C2.out w3 hR3.below
        clear hR2 d2 d3
        go_wp2_with fail
        refine (escape_any y hyl _).mono ?_
        rintro e w4 ⟨v4, rfl, hE, hnil, hb4⟩
        have hR4 := hR3.later hb4
        clear hR3 d4
        by_cases hye : y.data.toList = []
        · obtain rfl := hnil hye
          have HYE : Hid (esc y.data.toList = []) := by rw [hye]; rfl
          have hel : (esc y.data.toList).length = 0 := by rw [HYE.out]; rfl
          clear hE hnil hye
          go_wp2_with (first
            | (at_builtin; refine wpList_append_own_none rfl _ _ 32 rfl w.heap.size 5 i5 1 Tryd.underlying32 hi _ _ _ rfl hR4.own rfl ?_)
            | (at_builtin; refine wpList_bytes_row _ rfl _ _ 32 rfl w.heap.size 5 i5 Tryd.underlying32 hi hz0 hz1 hz2 _ _ rfl w (hR4.alloc _) _ 1 1 rfl _ _ _ (heap_new_at rfl) [34] rfl rfl (by simp; omega) ?_))
          intro v6 w6 hR6
          clear hR4
          go_wp2_with (at_builtin; refine wpList_bytes_string _ rfl _ _ 32 9 rfl w.heap.size 5 i5 Tryd.underlying32 Tryd.underlying9 hi hz0 hz1 hz2 _ _ rfl w hR6 pad rfl (by simp; omega) ?_)
          intro v7 w7 hR7
          clear hR6
          go_wp2_with (at_builtin; refine wpList_bytes_row _ rfl _ _ 32 rfl w.heap.size 5 i5 Tryd.underlying32 hi hz0 hz1 hz2 _ _ rfl w (hR7.alloc _) _ 1 1 rfl _ _ _ (heap_new_at rfl) [44] rfl rfl (by simp; omega) ?_)
          intro v8 w8 hR8
          clear hR7
          go_wp2
          go_roundw
          case rel => exact ⟨k + 1, _, by omega, by go_num, by show _ = _; rw [HT.out, renderAll_append, HL.out]; simp [renderAll, renderD, argPart, HYE.out], hR8⟩
          case measure => simp [intOf]; omega
        · have hne : 0 < (esc y.data.toList).length := by
            have := esc_pos hye
            omega
          obtain ⟨g, cp, cur, rfl, hgb, hcur⟩ : ∃ g cp cur, v4 = .slice (some ⟨g, 0, none⟩) (esc y.data.toList).length cp ∧ w4.heap[g]? = some (.cells cur 5 (0, 0)) ∧ cur.toList.take (esc y.data.toList).length = bv (esc y.data.toList) := by
            rcases hE.2 with ⟨_, h0⟩ | ⟨g, cp, cur, rfl, _, hg, _, _, _, ht⟩
            · omega
            · exact ⟨g, cp, cur, rfl, hg, by simpa using ht⟩
          clear hE hnil
          obtain ⟨ey, hey⟩ : ∃ ey, ey = esc y.data.toList := ⟨_, rfl⟩
          rw [← hey] at hcur hal hne ⊢
          have HEY : Hid (ey = esc y.data.toList) := hey
          clear hey
          go_wp2_with (at_builtin; refine wpList_bytes_row _ rfl _ _ 32 rfl w.heap.size 5 i5 Tryd.underlying32 hi hz0 hz1 hz2 _ _ rfl w hR4 _ _ _ rfl _ _ _ hgb ey rfl hcur (by simp; omega) ?_)
          intro v5 w5 hR5
          clear hR4 hgb hcur
          go_wp2_with (at_builtin; refine wpList_bytes_row _ rfl _ _ 32 rfl w.heap.size 5 i5 Tryd.underlying32 hi hz0 hz1 hz2 _ _ rfl w (hR5.alloc _) _ 1 1 rfl _ _ _ (heap_new_at rfl) [34] rfl rfl (by simp; omega) ?_)
          intro v6 w6 hR6
          clear hR5
          go_wp2_with (at_builtin; refine wpList_bytes_string _ rfl _ _ 32 9 rfl w.heap.size 5 i5 Tryd.underlying32 Tryd.underlying9 hi hz0 hz1 hz2 _ _ rfl w hR6 pad rfl (by simp; omega) ?_)
          intro v7 w7 hR7
          clear hR6
          go_wp2_with (at_builtin; refine wpList_bytes_row _ rfl _ _ 32 rfl w.heap.size 5 i5 Tryd.underlying32 hi hz0 hz1 hz2 _ _ rfl w (hR7.alloc _) _ 1 1 rfl _ _ _ (heap_new_at rfl) [44] rfl rfl (by simp; omega) ?_)
          intro v8 w8 hR8
          clear hR7
          go_wp2
          go_roundw
          case rel => exact ⟨k + 1, _, by omega, by go_num, by show _ = _; rw [HT.out, renderAll_append, HL.out]; simp [renderAll, renderD, argPart, ← HEY.out], hR8⟩
          case measure => simp [intOf]; omega
      | false =>
        by_cases hye : y.size = 0
        · have he := empty_y hye
          have HYE : Hid (y.data.toList = []) := List.eq_nil_of_length_eq_zero (by rw [size_len]; exact hye)
          have hal : (argPart y.data.toList false).length = 0 := by rw [HYE.out]; rfl
          go_wp2_with (at_builtin; refine wpList_bytes_string _ rfl _ _ 32 9 rfl w.heap.size 5 i5 Tryd.underlying32 Tryd.underlying9 hi hz0 hz1 hz2 _ _ rfl w hR2 pad rfl (by simp; omega) ?_)
          intro v3 w3 hR3
          clear hR2 d2 d3
          go_wp2_with (at_builtin; refine wpList_bytes_row _ rfl _ _ 32 rfl w.heap.size 5 i5 Tryd.underlying32 hi hz0 hz1 hz2 _ _ rfl w (hR3.alloc _) _ 1 1 rfl _ _ _ (heap_new_at rfl) [44] rfl rfl (by simp; omega) ?_)
          intro v4 w4 hR4
          clear hR3
          go_wp2
          go_roundw
          case rel => exact ⟨k + 1, _, by omega, by go_num, by show _ = _; rw [HT.out, renderAll_append, HL.out, HYE.out]; simp [renderAll, renderD, argPart], hR4⟩
          case measure => simp [intOf]; omega
        · have he := empty_n (by omega : 0 < y.size)
          have HYE : Hid (y.data.toList ≠ []) := by
            intro h
            exact hye (size_zero h)
          have hal : (argPart y.data.toList false).length = y.size + 1 := by unfold argPart; rw [if_neg (by decide), if_neg HYE.out]; simp
          go_wp2_with (at_builtin; refine wpList_bytes_row _ rfl _ _ 32 rfl w.heap.size 5 i5 Tryd.underlying32 hi hz0 hz1 hz2 _ _ rfl w (hR2.alloc _) _ 1 1 rfl _ _ _ (heap_new_at rfl) [61] rfl rfl (by simp; omega) ?_)
          intro v3 w3 hR3
          have d4 := C2.out w3 hR3.below
          clear hR2 d2 d3
          go_wp2_with (at_builtin; refine wpList_bytes_string _ rfl _ _ 32 9 rfl w.heap.size 5 i5 Tryd.underlying32 Tryd.underlying9 hi hz0 hz1 hz2 _ _ rfl w hR3 y rfl (by simp; omega) ?_)
          intro v4 w4 hR4
          clear hR3 d4
          go_wp2_with (at_builtin; refine wpList_bytes_string _ rfl _ _ 32 9 rfl w.heap.size 5 i5 Tryd.underlying32 Tryd.underlying9 hi hz0 hz1 hz2 _ _ rfl w hR4 pad rfl (by simp; omega) ?_)
          intro v5 w5 hR5
          clear hR4
          go_wp2_with (at_builtin; refine wpList_bytes_row _ rfl _ _ 32 rfl w.heap.size 5 i5 Tryd.underlying32 hi hz0 hz1 hz2 _ _ rfl w (hR5.alloc _) _ 1 1 rfl _ _ _ (heap_new_at rfl) [44] rfl rfl (by simp; omega) ?_)
          intro v6 w6 hR6
          clear hR5
          go_wp2
          go_roundw
          case rel => exact ⟨k + 1, _, by omega, by go_num, by show _ = _; rw [HT.out, renderAll_append, HL.out]; simp [renderAll, renderD, argPart, HYE.out], hR6⟩
          case measure => simp [intOf]; omega
    · have e : k = xs.length := by omega
      subst e
      have hll : l.length ≤ 67108865 ∧ l.length + pad.size ≤ 67108865 := by
        have a3 := HM.out
        have a4 := congrArg List.length HL.out
        have a1 := render_part pad.data.toList (items xs ys bs) xs.length
        simp only [List.length_cons] at a4
        omega
      go_wp2_with (at_builtin; refine wpList_bytes_string _ rfl _ _ 32 9 rfl w.heap.size 5 i5 Tryd.underlying32 Tryd.underlying9 hi hz0 hz1 hz2 _ _ rfl w hR pad rfl (by omega) ?_)
      intro v1 w1 hR1
      go_wp2
      go_ret
      refine ⟨_, rfl, ?_, hR1.below⟩
      have := hR1.own
      rw [HL.out, List.take_of_length_le (by rw [items_length xs ys bs HL1.out HL2.out]; omega)] at this
      exact this

end Go.Proofs.Qxb6604015aDoor
