import Derived.Test.Qxb6604678aGreatFmtW2
namespace Go.Proofs.Qxb6604678aGreatFmt
open Go Go.RowKit

/-- A slice of strings, read: its cells lie among the old ones. -/
def VS (w : World) (v : Value) (xs : List ByteArray) : Prop :=
  ∃ ao cap, v = .slice ao xs.length cap ∧ ∀ k (h : k < xs.length), ∃ b off, ao = some ⟨b, off, none⟩ ∧ b < w.heap.size ∧ w.cell? ⟨b, off + k, none⟩ = some (.string xs[k])
theorem VS.below {w w' : World} {v : Value} {xs : List ByteArray} (h : VS w v xs) (hb : Below w.heap.size w w') : VS w' v xs := by
  obtain ⟨ao, cap, rfl, hc⟩ := h
  refine ⟨ao, cap, rfl, fun k hk => ?_⟩
  obtain ⟨b, off, e, hlt, hcell⟩ := hc k hk
  exact ⟨b, off, e, Nat.lt_of_lt_of_le hlt hb.size, by rw [hb.cell (p := ⟨b, off + k, none⟩) hlt]; exact hcell⟩

def tot (xs : List ByteArray) : Nat := (xs.map (·.size)).sum
theorem tot_append (a b : List ByteArray) : tot (a ++ b) = tot a + tot b := by simp [tot]
theorem tot_take (xs : List ByteArray) (k : Nat) (h : k < xs.length) : tot (xs.take (k + 1)) = tot (xs.take k) + xs[k].size := by
  rw [List.take_add_one, List.getElem?_eq_getElem h, tot_append]
  simp [tot]
theorem tot_part (xs : List ByteArray) (k : Nat) : tot (xs.take k) ≤ tot xs := by
  have h2 : tot xs = tot (xs.take k) + tot (xs.drop k) := by rw [← tot_append, List.take_append_drop]
  omega
theorem size_le_tot (xs : List ByteArray) (k : Nat) (h : k < xs.length) : xs[k].size ≤ tot xs := by
  have := tot_take xs k h
  have := tot_part xs (k + 1)
  omega

/-- What stands before the k-th part, and the parts before it. -/
def wto (xs : List ByteArray) : Nat → Bs
  | 0 => []
  | k + 1 => wto xs k ++ sep k ++ wpart (xs.getD k ⟨#[]⟩).data.toList
theorem wto_succ (xs : List ByteArray) (k : Nat) (h : k < xs.length) : wto xs (k + 1) = wto xs k ++ sep k ++ wpart xs[k].data.toList := by
  rw [wto, List.getD_eq_getElem?_getD, List.getElem?_eq_getElem h]; rfl
theorem wpart_len (p : Bs) : (wpart p).length ≤ 4 * p.length + 2 := by
  unfold wpart
  split
  · omega
  · have := encS_len p
    simp only [List.length_cons, List.length_append, List.length_nil]
    omega
theorem sep_len (i : Nat) : (sep i).length ≤ 4 := by
  unfold sep
  split
  · simp
  · split <;> simp
theorem wto_len (xs : List ByteArray) : ∀ k, k ≤ xs.length → (wto xs k).length ≤ 4 * tot (xs.take k) + 6 * k
  | 0, _ => by simp [wto]
  | k + 1, h => by
    have ih := wto_len xs k (by omega)
    rw [wto_succ xs k (by omega), tot_take xs k (by omega)]
    have h1 := sep_len k
    have h2 := wpart_len xs[k].data.toList
    have h3 : xs[k].data.toList.length = xs[k].size := by simp
    simp only [List.length_append]
    omega
/-- The document. -/
def docL (xs : List ByteArray) : Bs := wto xs xs.length ++ [32, 61, 32, 49]

def Wrote (xs : List ByteArray) (w : World) (e : Ending) (w' : World) : Prop := e = .returned (.string ⟨(docL xs).toArray⟩) ∧ Below w.heap.size w w'

set_option maxRecDepth 100000 in
set_option maxHeartbeats 3200000 in
theorem write_any (xs : List ByteArray) (v : Value) (w : World) (hv : VS w v xs) (hn : xs.length ≤ 65536) (ht : tot xs ≤ 1048576) :
    Calls Tryz.prog 5 #[v] w fun e w' => Wrote xs w e w' := by
  obtain ⟨i5, hi5, hz0, hz1, hz2⟩ := info_parts Tryz.rinfo5
  obtain ⟨ao, cap, rfl, hc⟩ := hv
  have HC : Hid (∀ k (h : k < xs.length), ∃ b off, ao = some ⟨b, off, none⟩ ∧ b < w.heap.size ∧ w.cell? ⟨b, off + k, none⟩ = some (.string xs[k])) := hc
  clear hc
  have hR0 : BRow w.heap.size 5 w w (.slice none 0 0) [] := ⟨World.ownsRow_nil _ _ _ _, Below.refl _ _, Nat.le_refl _⟩
  go_enter Tryz.func5, Tryz.ntmps5
  go_wp2_with fail
  go_loopw [3, 4] (fun bv iv wr => ∃ k : Nat, k ≤ xs.length ∧ iv = .int .i64 k ∧ BRow w.heap.size 5 w wr bv (wto xs k)) (fun _ iv _ => xs.length - (intOf iv).toNat)
  case atStart => exact ⟨0, Nat.zero_le _, rfl, hR0⟩
  case round =>
    obtain ⟨k, hk, rfl, hR⟩ := hrel
    have hlen := wto_len xs k hk
    have htp := tot_part xs k
    by_cases hlt : k < xs.length
    · obtain ⟨b, off, rfl, hbl, hcell⟩ := HC.out k hlt
      have hsz : xs[k].size ≤ 1048576 := Nat.le_trans (size_le_tot xs k hlt) ht
      have hT := wto_succ xs k hlt
      generalize wto xs k = F at *
      by_cases h0 : k = 0
      · subst h0
        have HE : Hid (wto xs (0 + 1) = F ++ wpart xs[0].data.toList) := by show _ = _; rw [hT]; simp [sep]
        clear hT
        have c1 : wr.cell? ⟨b, off, none⟩ = some (.string xs[0]) := by rw [hR.below.cell (p := ⟨b, off, none⟩) hbl]; exact hcell
        have CALL := akp_any xs[0] hsz _ _ wr _ F hR (by omega)
        generalize xs[0] = x at *
        go_wp2_with fail
        refine CALL.mono ?_
        rintro e w1 ⟨v1, rfl, hR1⟩
        clear hR CALL
        go_wp2
        go_roundw
        case rel => exact ⟨0 + 1, by omega, by go_num, hR1.cast HE.out.symm⟩
        case measure => simp [intOf]; omega
      · have hk0 : decide (0 < (k : Int)) = true := by simp; omega
        have c1 : wr.cell? ⟨b, off + k, none⟩ = some (.string xs[k]) := by rw [hR.below.cell (p := ⟨b, off + k, none⟩) hbl]; exact hcell
        by_cases h2 : k % 2 = 1
        · have h2' : ((k : Int) % 2 == 1) = true := by simp; omega
          have HE : Hid (wto xs (k + 1) = F ++ [46] ++ wpart xs[k].data.toList) := by show _ = _; rw [hT]; simp [sep, h0, h2]
          clear hT hcell
          generalize xs[k] = x at *
          go_wp2_with (at_builtin; refine wpList_bytes_row _ rfl _ _ 32 rfl w.heap.size 5 i5 Tryz.underlying32 hi5 hz0 hz1 hz2 _ _ rfl w (hR.alloc _) _ 1 1 rfl _ _ _ (heap_new_at rfl) [46] rfl rfl (by omega) ?_)
          intro va wa hRa
          have c2 : wa.cell? ⟨b, off + k, none⟩ = some (.string x) := by rw [hRa.below.cell (p := ⟨b, off + k, none⟩) hbl, ← hR.below.cell (p := ⟨b, off + k, none⟩) hbl]; exact c1
          clear hR c1
          have CALL := akp_any x hsz _ _ wa _ _ hRa (by simp only [List.length_append, List.length_cons, List.length_nil]; omega)
          go_wp2_with fail
          refine CALL.mono ?_
          rintro e w1 ⟨v1, rfl, hR1⟩
          clear hRa CALL
          go_wp2
          go_roundw
          case rel => exact ⟨k + 1, by omega, by go_num, hR1.cast HE.out.symm⟩
          case measure => simp [intOf]; omega
        · have h2' : ((k : Int) % 2 == 1) = false := by simp; omega
          have HE : Hid (wto xs (k + 1) = F ++ [32, 9, 46, 32] ++ wpart xs[k].data.toList) := by show _ = _; rw [hT]; simp [sep, h0, h2]
          clear hT hcell
          generalize xs[k] = x at *
          go_wp2_with (at_builtin; refine wpList_bytes_string _ rfl _ _ 32 9 rfl w.heap.size 5 i5 Tryz.underlying32 Tryz.underlying9 hi5 hz0 hz1 hz2 _ _ rfl w hR ⟨#[32, 9, 46, 32]⟩ rfl (by show _ + 4 ≤ _; omega) ?_)
          intro va wa hRa
          have c2 : wa.cell? ⟨b, off + k, none⟩ = some (.string x) := by rw [hRa.below.cell (p := ⟨b, off + k, none⟩) hbl, ← hR.below.cell (p := ⟨b, off + k, none⟩) hbl]; exact c1
          clear hR c1
          have CALL := akp_any x hsz _ _ wa _ _ hRa (by simp only [List.length_append, List.length_cons, List.length_nil]; omega)
          go_wp2_with fail
          refine CALL.mono ?_
          rintro e w1 ⟨v1, rfl, hR1⟩
          clear hRa CALL
          go_wp2
          go_roundw
          case rel => exact ⟨k + 1, by omega, by go_num, hR1.cast HE.out.symm⟩
          case measure => simp [intOf]; omega
    · obtain rfl : k = xs.length := by omega
      generalize hF : wto xs xs.length = F at *
      have HF : Hid (docL xs = F ++ [32, 61, 32, 49]) := by show _ = _; rw [docL, hF]
      clear hF
      go_wp2_with (at_builtin; refine wpList_bytes_string _ rfl _ _ 32 9 rfl w.heap.size 5 i5 Tryz.underlying32 Tryz.underlying9 hi5 hz0 hz1 hz2 _ _ rfl w hR ⟨#[32, 61, 32, 49]⟩ rfl (by show _ + 4 ≤ _; omega) ?_)
      intro va wa hRa
      have hcv := run_string_own (P := Tryz.prog) (src := 32) (dst := 9) hRa.own Tryz.underlying32 Tryz.underlying5 Tryz.underlying9
      go_wp2
      go_ret
      exact ⟨ret_str HF.out.symm, hRa.below⟩
end Go.Proofs.Qxb6604678aGreatFmt
