import Derived.Test.Qxb6604678aGreatFmtP
namespace Go.Proofs.Qxb6604678aGreatFmt
open Go Go.RowKit

/-- The document from what stands ahead of the k-th part on. -/
def tailR (xs : List ByteArray) (k : Nat) : Bs := wfrom k ((xs.drop k).map (·.data.toList))
theorem tailR_end (xs : List ByteArray) : tailR xs xs.length = [32, 61, 32, 49] := by
  unfold tailR
  rw [List.drop_of_length_le (Nat.le_refl _)]
  rfl
theorem tailR_step (xs : List ByteArray) (k : Nat) (h : k < xs.length) : tailR xs k = sep k ++ wpart xs[k].data.toList ++ tailR xs (k + 1) := by
  unfold tailR
  rw [List.drop_eq_getElem_cons h, List.map_cons, wfrom]
theorem wto_tail (xs : List ByteArray) : ∀ k, k ≤ xs.length → wto xs k ++ tailR xs k = tailR xs 0
  | 0, _ => rfl
  | k + 1, h => by
    have ih := wto_tail xs k (by omega)
    rw [tailR_step xs k (by omega)] at ih
    rw [wto_succ xs k (by omega), ← ih]
    simp
theorem docL_tail (xs : List ByteArray) : docL xs = tailR xs 0 := by
  rw [← wto_tail xs xs.length (Nat.le_refl _), tailR_end, docL]

/-- The blank that stands between the dot and the k-th part. -/
def lead (k : Nat) : Bs := if k = 0 then [] else if k % 2 = 1 then [] else [32]
/-- The blanks ahead of the dot. -/
def ahead (k : Nat) : Bs := if k % 2 = 1 then [] else [32, 9]
theorem lead_blank (k : Nat) : (lead k).all blank = true := by
  unfold lead
  split
  · rfl
  · split <;> rfl
theorem ahead_blank (k : Nat) : (ahead k).all blank = true := by
  unfold ahead
  split <;> rfl
theorem tailR_mid (xs : List ByteArray) (k : Nat) (h : k < xs.length) (h0 : k ≠ 0) : tailR xs k = ahead k ++ 46 :: (lead k ++ (wpart xs[k].data.toList ++ tailR xs (k + 1))) := by
  rw [tailR_step xs k h]
  unfold sep ahead lead
  rw [if_neg h0, if_neg h0]
  split <;> simp
theorem tailR_first (xs : List ByteArray) (h : 0 < xs.length) : tailR xs 0 = lead 0 ++ (wpart xs[0].data.toList ++ tailR xs 1) := by
  rw [tailR_step xs 0 h]
  simp [sep, lead]
theorem tailR_head (xs : List ByteArray) (k : Nat) (h : k < xs.length) : ∃ c t, tailR xs (k + 1) = c :: t ∧ bareB c = false ∧ c ≠ 34 := by
  by_cases hl : k + 1 < xs.length
  · rw [tailR_mid xs (k + 1) hl (by omega)]
    unfold ahead
    split
    · exact ⟨46, _, rfl, by decide, by decide⟩
    · exact ⟨32, _, rfl, by decide, by decide⟩
  · rw [show k + 1 = xs.length from by omega, tailR_end]
    exact ⟨32, _, rfl, by decide, by decide⟩

theorem encS_head : ∀ (p : Bs) (t : Bs) (c : UInt8), c ≠ 34 → Lib.hasPrefix (34 :: (encS p ++ 34 :: (c :: t))) [34, 34, 34] = false := by
  intro p t c hc
  cases p with
  | nil =>
    show ((34 : UInt8) == 34 && ((34 : UInt8) == 34 && ((34 == c) && _))) = false
    rw [beq_eq_false_iff_ne.2 (Ne.symm hc)]
    rfl
  | cons y p =>
    obtain ⟨z, zs, hz, hne⟩ : ∃ z zs, encB y = z :: zs ∧ z ≠ 34 := by
      unfold encB
      split
      · exact ⟨92, _, rfl, by decide⟩
      · rename_i hn
        split
        · exact ⟨92, _, rfl, by decide⟩
        · exact ⟨y, _, rfl, fun e => hn (.inl e)⟩
    rw [encS, hz]
    show ((34 : UInt8) == 34 && ((34 == z) && _)) = false
    rw [beq_eq_false_iff_ne.2 (Ne.symm hne)]
    rfl

theorem wpart_head (p : Bs) : ∃ c t, wpart p = c :: t ∧ blank c = false := by
  by_cases h : p ≠ [] ∧ p.all bareB = true
  · rw [wpart_bare h.1 h.2]
    obtain ⟨c, t, rfl⟩ := List.exists_cons_of_ne_nil h.1
    refine ⟨c, t, rfl, ?_⟩
    have hb : bareB c = true := by have := h.2; simp at this; exact this.1
    cases hbl : blank c with
    | false => rfl
    | true =>
      exfalso
      unfold blank at hbl
      rcases Bool.or_eq_true_iff.1 hbl with e | e
      · rw [eq_of_beq e] at hb; exact absurd hb (by decide)
      · rw [eq_of_beq e] at hb; exact absurd hb (by decide)
  · rw [wpart_quoted h]
    exact ⟨34, _, rfl, by decide⟩

theorem keyPart_any (B : Nat) (doc : ByteArray) (pos : Nat) (p : Bs) (c : UInt8) (t : Bs) (w : World) (hP : PS B doc pos w) (hA : At doc pos (wpart p ++ c :: t)) (hc : bareB c = false) (h34 : c ≠ 34) :
    Calls Tryz.prog 14 #[.pointer (some ⟨B, 0, none⟩)] w fun e w' => Gives B doc (pos + (wpart p).length) ⟨p.toArray⟩ w e w' := by
  by_cases h : p ≠ [] ∧ p.all bareB = true
  · rw [wpart_bare h.1 h.2] at hA ⊢
    exact keyPart_bare B doc pos p c t w hP hA h.1 h.2 hc
  · rw [wpart_quoted h] at hA ⊢
    have hA' : At doc pos (34 :: (encS p ++ 34 :: (c :: t))) := by simpa using hA
    have := keyPart_quoted B doc pos p (c :: t) w hP hA' (encS_head p t c h34)
    rw [show pos + (34 :: (encS p ++ [34])).length = pos + 1 + (encS p).length + 1 from by simp; omega]
    exact this

def sb (xs : List ByteArray) : List Value := xs.map Value.string
theorem sb_take (xs : List ByteArray) (k : Nat) (h : k < xs.length) : sb (xs.take (k + 1)) = sb (xs.take k) ++ [.string xs[k]] := by
  unfold sb
  rw [List.take_add_one, List.getElem?_eq_getElem h, List.map_append]
  rfl
theorem Tryz.rinfo9 : (Tryz.prog.info? 9).map (fun i => (i.zero, i.size, i.bytes)) = some (some (.string ⟨#[]⟩), 1, 16) := by kernel_rfl
theorem own_but {W W' : World} {base B : Nat} {e size : Nat} {v : Value} {n : Nat} {ys : List Value} (h : W.ownsRow base e size v n ys) (hg : W.grownBy W' (some B)) (hB : B < base) : W'.ownsRow base e size v n ys := by
  refine h.kept hg ?_
  cases hv : v.ownBlock with
  | none => exact .inl rfl
  | some k => exact .inr fun e => by have := (h.lt k hv).1; have := Option.some.inj e; omega

/-- What 'key' gives: the parts, and where it stands. -/
def Keys (base B : Nat) (doc : ByteArray) (xs : List ByteArray) (w : World) (e : Ending) (w' : World) : Prop :=
  ∃ v, e = .returned (.tuple #[v, .nilIface]) ∧ w'.ownsRow base 9 1 v xs.length (sb xs) ∧ PS B doc (doc.size - 3) w' ∧ w.grownBy w' (some B)

theorem str_self (x : ByteArray) : (⟨x.data.toList.toArray⟩ : ByteArray) = x := by cases x; simp

set_option maxRecDepth 100000 in
set_option maxHeartbeats 3200000 in
theorem key_some (B : Nat) (doc : ByteArray) (xs : List ByteArray) (w : World) (hP : PS B doc 0 w) (hA : At doc 0 (tailR xs 0)) (h0 : 0 < xs.length) (hn : xs.length ≤ 65536) :
    Calls Tryz.prog 10 #[.pointer (some ⟨B, 0, none⟩)] w fun e w' => Keys w.heap.size B doc xs w e w' := by
  obtain ⟨i9, hi9, hz0, hz1, hz2⟩ := info_parts Tryz.rinfo9
  have hBw := hP.lt
  rw [tailR_first xs h0] at hA
  go_enter Tryz.func10, Tryz.ntmps10
  go_wp2_with fail
  go_loopg [4] xs.length (fun g v wx => ∃ i q : Nat, i + g = xs.length ∧ Hid (∃ h : i < xs.length, At doc q (lead i ++ (wpart xs[i].data.toList ++ tailR xs (i + 1)))) ∧ PS B doc q wx ∧ wx.ownsRow w.heap.size 9 1 v i (sb (xs.take i)) ∧ w.grownBy wx (some B))
  case atStart => exact ⟨0, 0, by omega, ⟨h0, hA⟩, hP, World.ownsRow_nil _ _ _ _, World.grownBy.refl _ _⟩
  case round =>
    obtain ⟨i, q, hig, ⟨hlt, hAt⟩, hPq, hown, hG⟩ := hrel
    obtain ⟨c1, t1, hw1, hbl1⟩ := wpart_head xs[i].data.toList
    obtain ⟨c2, t2, ht2, hb2, h34⟩ := tailR_head xs i hlt
    have hsb := sb_take xs i hlt
    have CS := skip_any B doc q (lead i) c1 (t1 ++ tailR xs (i + 1)) wr hPq (by rw [hw1] at hAt; exact hAt) (lead_blank i) hbl1
    have hA1 : At doc (q + (lead i).length) (wpart xs[i].data.toList ++ tailR xs (i + 1)) := hAt.skip
    have hA2 : At doc (q + (lead i).length + (wpart xs[i].data.toList).length) (tailR xs (i + 1)) := hA1.skip
    rw [ht2] at hA1
    generalize q + (lead i).length = q1 at *
    generalize hq2 : q1 + (wpart xs[i].data.toList).length = q2 at *
    have HA2 : Hid (At doc q2 (tailR xs (i + 1))) := hA2
    have HA1 : Hid (At doc q1 (wpart xs[i].data.toList ++ c2 :: t2)) := hA1
    have HQ2 : Hid (q1 + (wpart xs[i].data.toList).length = q2) := hq2
    have HSB : Hid (sb (xs.take (i + 1)) = sb (xs.take i) ++ [.string xs[i]]) := hsb
    clear hA1 hA2 hq2 hAt hw1 ht2 hbl1 hsb hP hA
    go_wp2_with fail
    refine CS.mono ?_
    rintro e w1 ⟨⟨v1, rfl⟩, hP1, hG1⟩
    clear CS
    have hown1 := own_but hown hG1 hBw
    have hG1' := hG.trans hG1
    clear hPq hown hG
    have CK := keyPart_any B doc q1 xs[i].data.toList c2 t2 w1 hP1 HA1.out hb2 h34
    rw [HQ2.out, str_self] at CK
    go_wp2_with fail
    refine CK.mono ?_
    rintro e w2 ⟨rfl, hP2, hG2⟩
    clear CK
    have hown2 := own_but hown1 hG2 hBw
    have hG2' := hG1'.trans hG2
    clear hP1 hown1 hG1 hG2 hG1' HA1
    go_wp2_with (at_builtin; refine wpList_append_one _ rfl _ _ 22 rfl w.heap.size 9 i9 (.string ⟨#[]⟩) 16 Tryz.underlying22 hi9 hz0 hz1 hz2 rfl _ i (sb (xs.take i)) rfl (hown2.alloc _) _ (Below.refl _ _) _ (.string xs[i]) rfl (by go_simp) rfl (by omega) (by omega) (by have := hG2'.size; simp; omega) ?_)
    intro v3 w3 hown3 hgr3 hnn3 hob3 hB3
    have hP3 := (hP2.kept (World.grownBy_alloc w2 (.cells #[.string xs[i]] 9) none) (by simp)).below hB3 hBw
    have hG3 := grown_then (hG2'.trans (World.grownBy_alloc w2 (.cells #[.string xs[i]] 9) _)) hB3 (Nat.le_refl _)
    rw [← HSB.out] at hown3
    clear hP2 hown2 hG2' hgr3 hnn3 hob3 hB3 HQ2 HSB hb2 h34
    by_cases hl : i + 1 < xs.length
    · have hA4 := HA2.out
      rw [tailR_mid xs (i + 1) hl (by omega)] at hA4
      have CS := skip_any B doc q2 (ahead (i + 1)) 46 _ w3 hP3 hA4 (ahead_blank (i + 1)) (by decide)
      have hA5 := hA4.skip
      generalize q2 + (ahead (i + 1)).length = q3 at *
      have HA5 : Hid (At doc q3 (46 :: (lead (i + 1) ++ (wpart xs[i + 1].data.toList ++ tailR xs (i + 1 + 1))))) := hA5
      clear hA4 hA5 HA2
      go_wp2_with fail
      refine CS.mono ?_
      rintro e w4 ⟨⟨v4, rfl⟩, hP4, hG4⟩
      clear CS
      have hown4 := own_but hown3 hG4 hBw
      have hG4' := hG3.trans hG4
      have CC := consume_yes B doc q3 46 _ w4 hP4 HA5.out
      rw [show (((46 : UInt8).toNat : Int)) = 46 from rfl] at CC
      go_wp2_with fail
      refine CC.mono ?_
      rintro e w5 ⟨rfl, hP5, hG5⟩
      clear CC
      have hown5 := own_but hown4 hG5 hBw
      have hG5' := hG4'.trans hG5
      have HN : Hid (∃ h : i + 1 < xs.length, At doc (q3 + 1) (lead (i + 1) ++ (wpart xs[i + 1].data.toList ++ tailR xs (i + 1 + 1)))) := ⟨hl, HA5.out.next⟩
      clear HA5
      go_wp2
      go_roundg (gk - 1)
      case measure => omega
      case rel => exact ⟨i + 1, q3 + 1, by omega, HN, hP5, hown5, hG5'⟩
    · have hA4 := HA2.out
      have hie : i + 1 = xs.length := by omega
      rw [hie, tailR_end] at hA4
      have CS := skip_any B doc q2 [32] 61 [32, 49] w3 hP3 hA4 (by decide) (by decide)
      have hA5 : At doc (q2 + 1) [61, 32, 49] := hA4.next
      have hq5 : q2 + 1 = doc.size - 3 := by
        have h1 := congrArg List.length hA5
        simp only [List.length_drop, Array.length_toList, List.length_cons, List.length_nil] at h1
        have e : doc.data.size = doc.size := rfl
        omega
      have HA5 : Hid (At doc (q2 + 1) [61, 32, 49]) := hA5
      have HQ5 : Hid (q2 + 1 = doc.size - 3) := hq5
      have HOWN : Hid (w3.ownsRow w.heap.size 9 1 v3 xs.length (sb xs)) := by
        have h1 := hown3
        rw [hie, List.take_of_length_le (Nat.le_refl _)] at h1
        exact h1
      clear hA4 hA5 hq5 hie hown3 HA2
      go_wp2_with fail
      refine CS.mono ?_
      rintro e w4 ⟨⟨v4, rfl⟩, hP4, hG4⟩
      clear CS
      have hP4' : PS B doc (q2 + 1) w4 := hP4
      have CC := consume_no B doc (q2 + 1) 61 46 [32, 49] w4 hP4' HA5.out (by decide)
      rw [show (((46 : UInt8).toNat : Int)) = 46 from rfl] at CC
      go_wp2_with fail
      refine CC.mono ?_
      rintro e w5 ⟨rfl, hP5, hG5⟩
      clear CC
      go_wp2
      go_ret2
      exact ⟨v3, rfl, own_but (own_but HOWN.out hG4 hBw) hG5 hBw, by rw [← HQ5.out]; exact hP5, (hG3.trans hG4).trans hG5⟩
end Go.Proofs.Qxb6604678aGreatFmt
