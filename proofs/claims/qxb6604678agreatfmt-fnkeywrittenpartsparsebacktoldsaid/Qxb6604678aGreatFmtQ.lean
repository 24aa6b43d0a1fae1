import Derived.Test.Qxb6604678aGreatFmtE
namespace Go.Proofs.Qxb6604678aGreatFmt
open Go Go.RowKit

set_option maxRecDepth 100000 in
set_option maxHeartbeats 800000 in
theorem isControl_no (c : UInt8) (h : (decide ((c.toNat : Int) < 32) = true ∧ ((c.toNat : Int) == 9) = true ∧ ((c.toNat : Int) == 127) = false) ∨ (decide ((c.toNat : Int) < 32) = false ∧ ((c.toNat : Int) == 127) = false)) (w : World) :
    Calls Tryz.prog 38 #[.int .u8 (c.toNat : Int)] w fun e w' => Yes false w e w' := by
  rcases h with ⟨h1, h2, h3⟩ | ⟨h1, h2⟩
  · have h9 : ((c.toNat : Int) != 9) = false := by simp_all
    go_enter Tryz.func38, Tryz.ntmps38
    go_wp2
    all_goals go_ret
    all_goals exact ⟨rfl, rfl⟩
  · go_enter Tryz.func38, Tryz.ntmps38
    go_wp2
    all_goals go_ret
    all_goals exact ⟨rfl, rfl⟩

theorem encB_ge (c : UInt8) : 1 ≤ (encB c).length := by
  unfold encB
  split
  · simp
  · split <;> simp
theorem encS_ge : ∀ l : Bs, l.length ≤ (encS l).length
  | [] => by simp
  | c :: t => by
    have := encS_ge t
    have := encB_ge c
    simp only [encS, List.length_append, List.length_cons]
    omega

theorem bld_kept {Bb b B : Nat} {bs : List Value} {W W' : World} (h : Lib.IsBuilderF 58 5 Bb b bs W) (hg : W.grownBy W' (some B)) (hB : B < Bb) : Lib.IsBuilderF 58 5 Bb b bs W' := by
  have key : ∀ p, Lib.BuilderAtF 58 5 Bb b p bs W → Lib.BuilderAtF 58 5 Bb b p bs W' := by
    intro p hp
    have hlt := hp.lt
    obtain ⟨hbb, v, hb, hown, hne⟩ := hp
    refine ⟨hbb, v, (hg.block b hlt (by simp; omega)).trans hb, hown.kept hg ?_, hne⟩
    cases hv : v.ownBlock with
    | none => exact .inl rfl
    | some k => exact .inr fun e => by have := (hown.lt k hv).1; have := Option.some.inj e; omega
  exact h.elim (fun x => .inl (key _ x)) (fun x => .inr (key _ x))
theorem bld_new (W : World) : Lib.IsBuilderF 58 5 W.heap.size W.heap.size (Lib.byteCells []) (W.alloc (.cells #[.pointer none, .slice none 0 0] 58)) :=
  .inl ⟨Nat.le_refl _, _, heap_new_at rfl, World.ownsRowF_nil _ _ _ _, by simp [Value.ownBlock]⟩

theorem PS.below {B : Nat} {doc : ByteArray} {pos n : Nat} {W W' : World} (h : PS B doc pos W) (hb : Below n W W') (hn : B < n) : PS B doc pos W' :=
  ⟨(hb.cell (p := ⟨B, 0, none⟩) hn).trans h.d, (hb.cell (p := ⟨B, 1, none⟩) hn).trans h.p, (hb.cell (p := ⟨B, 2, none⟩) hn).trans h.l, (hb.frozen (p := ⟨B, 1, none⟩) hn).trans h.f, Nat.lt_of_lt_of_le h.lt hb.size, h.small, h.le⟩
theorem grown_then {a w w' : World} {row : Option Nat} {n : Nat} (h : a.grownBy w row) (hb : Below n w w') (hn : a.heap.size ≤ n) : a.grownBy w' row :=
  ⟨hb.os.trans h.os, hb.tape.trans h.tape, hb.output.trans h.output, Nat.le_trans h.size hb.size, fun k hk hne => (hb.block k (by omega)).trans (h.block k hk hne)⟩
theorem cells_snoc (d : Bs) (x : UInt8) : Lib.byteCells d ++ [Value.int .u8 (x.toNat : Int)] = Lib.byteCells (d ++ [x]) := by simp [Lib.byteCells]
theorem cells_str (d : Bs) (x : UInt8) : Lib.byteCells d ++ Lib.strCells ⟨#[x]⟩ = Lib.byteCells (d ++ [x]) := by simp [Lib.byteCells, Lib.strCells]
theorem cells_len (d : Bs) : (Lib.byteCells d).length = d.length := by simp [Lib.byteCells]

theorem repeat34 (w : World) : Calls Tryz.prog 31 #[.string ⟨#[34]⟩, .int .i64 3] w fun e w' => e = .returned (.string ⟨#[34, 34, 34]⟩) ∧ Below w.heap.size w w' :=
  Tryz.strings_Repeat ⟨#[34]⟩ 3 w (by decide) (by decide)

theorem pre_no {doc : ByteArray} {pos : Nat} {r : Bs} (hA : At doc pos r) (q : UInt8) (h : Lib.hasPrefix r [q, q, q] = false) (w : World) :
    Calls Tryz.prog 16 #[.string (doc.extract pos doc.size), .string ⟨#[q, q, q]⟩] w fun e w' => e = .returned (.bool false) ∧ w' = w := by
  have := Tryz.strings_HasPrefix (doc.extract pos doc.size) ⟨#[q, q, q]⟩ w
  rw [extract_drop] at this ⊢
  rw [show doc.data.toList.drop pos = r from hA] at this ⊢
  simp only at this
  rw [h] at this
  exact this

set_option maxRecDepth 100000 in
set_option maxHeartbeats 6400000 in
theorem quoted_any (B : Nat) (doc : ByteArray) (pos : Nat) (p t : Bs) (w : World) (hP : PS B doc pos w) (hA : At doc pos (34 :: (encS p ++ 34 :: t))) (hno : Lib.hasPrefix (34 :: (encS p ++ 34 :: t)) [34, 34, 34] = false) :
    Calls Tryz.prog 25 #[.pointer (some ⟨B, 0, none⟩), .int .u8 34] w fun e w' => Gives B doc (pos + 1 + (encS p).length + 1) ⟨p.toArray⟩ w e w' := by
  have CR := repeat34 w
  have HN := pre_no hA 34 hno
  have h34 : Utf8.encode 34 = ⟨#[34]⟩ := by decide
  have hlt := hA.lt
  have HA : Hid (At doc (pos + 1) (encS p ++ 34 :: t)) := hA.next
  clear hno hA
  go_enter Tryz.func25, Tryz.ntmps25
  go_wp2_with fail
  refine CR.mono ?_
  rintro e w1 ⟨rfl, hB1⟩
  clear CR
  have hP1 := hP.kept (row := none) (grown_below hB1 (Nat.le_refl _)) (by simp)
  have hG1 : w.grownBy w1 (some B) := grown_below hB1 (Nat.le_refl _)
  clear hP hB1
  have c1 := hP1.d
  have c2 := hP1.p
  have c3 := hP1.f
  have hsm := hP1.small
  have hi1 : (pos : Int) ≤ (doc.size : Int) := by omega
  have hi2 : (0 : Int) ≤ (pos : Int) := by omega
  have HN' := fun n => Calls.quiet_of_same (w := w1) (n := n) (HN (w1.drewN n))
  go_wp2_with fail
  go_quiet (first | (go_at_call 16; exact HN' _) | fail)
  have hP2 := hP1.draws nq
  have hG2 := grown_draws hG1 nq
  clear c1 c2 c3 hP1 hG1 HN HN' h34 hi1 hi2
  generalize w1.drewN nq = W2 at *
  clear w1
  have c2 := hP2.p
  have c3 := hP2.f
  have hw1 : IntKind.i64.wrap ((pos : Int) + 1) = ((pos + 1 : Nat) : Int) := by rw [IntKind.wrap_i64]; omega
  have hP3 := hP2.set (pos + 1) (by omega)
  have hG3 : w.grownBy (W2.setCell ⟨B, 1, none⟩ (.int .i64 ((pos + 1 : Nat) : Int))) (some B) := hG2.trans (grown_setCell _ _ _)
  rw [show ((pos + 1 : Nat) : Int) = (pos : Int) + 1 from rfl] at hP3 hG3
  go_upto_block 0 with fail
  have hsz := size_setCell W2 ⟨B, 1, none⟩ (.int .i64 ((pos : Int) + 1))
  generalize W2.setCell ⟨B, 1, none⟩ (.int .i64 ((pos : Int) + 1)) = W3 at *
  clear c2 c3 hP2 hG2 hw1
  have hBld := bld_new W3
  have hP4 := hP3.kept (World.grownBy_alloc W3 (.cells #[.pointer none, .slice none 0 0] 58) none) (by simp)
  have hG4 : w.grownBy (W3.alloc (.cells #[.pointer none, .slice none 0 0] 58)) (some B) := hG3.trans (World.grownBy_alloc _ _ _)
  have hBB := hP3.lt
  have hwB := hG3.size
  have hBs : W3.heap.size ≤ (W3.alloc (.cells #[.pointer none, .slice none 0 0] 58)).heap.size := (World.grownBy_alloc W3 _ none).size
  clear hP3 hG3
  generalize W3.alloc (.cells #[.pointer none, .slice none 0 0] 58) = W4 at *
  rw [hsz] at hBld hBB hBs hwB
  clear hsz W3
  generalize W2.heap.size = Bb at *
  clear W2
  have hpl : p.length ≤ 1073741824 := by
    have h1 := encS_ge p
    have h2 := congrArg List.length HA.out
    simp only [List.length_drop, List.length_append, List.length_cons, Array.length_toList] at h2
    have e : doc.data.size = doc.size := rfl
    omega
  go_wp2_with fail
  go_loopg [9] p.length (fun g _ wx => ∃ (d r : Bs) (q : Nat), r.length = g ∧ Hid (p = d ++ r) ∧ Hid (q + (encS r).length = pos + 1 + (encS p).length) ∧ PS B doc q wx ∧ Hid (At doc q (encS r ++ 34 :: t)) ∧ Lib.IsBuilderF 58 5 Bb Bb (Lib.byteCells d) wx ∧ Bb ≤ wx.heap.size ∧ w.grownBy wx (some B))
  case atStart => exact ⟨[], p, pos + 1, rfl, rfl, rfl, hP4, HA, hBld, hBs, hG4⟩
  case round =>
    obtain ⟨d, r, q, hr, HD, hq, hPq, HAq, hBl, hBz, hG⟩ := hrel
    clear hBld hBs hG4 hP4 HA W4
    have hdl : d.length + r.length = p.length := by rw [HD.out, List.length_append]
    obtain ⟨y, ys, HY⟩ : ∃ y ys, Hid (At doc q (y :: ys)) := by
      cases r with
      | nil => exact ⟨34, t, HAq.out⟩
      | cons x r =>
        have h1 : encB x ≠ [] := fun e => by have := encB_ge x; rw [e] at this; simp at this
        obtain ⟨z, zs, hz⟩ := List.exists_cons_of_ne_nil h1
        have := HAq.out
        simp only [encS, hz, List.cons_append] at this
        exact ⟨z, _, this⟩
    have hlt := HY.out.lt
    have hget : doc[q] = y := HY.out.get hlt
    have hi : (q : Int) < (doc.size : Int) := by omega
    have h0 : (0 : Int) ≤ (q : Int) := by omega
    have hne : ((q : Int) == (doc.size : Int)) = false := beq_eq_false_iff_ne.2 (by omega)
    have c1 := hPq.d
    have c2 := hPq.p
    go_wp2_with fail
    go_quiet (fail)
    have hP1 := hPq.draws nq
    have hG1 := grown_draws hG nq
    have hB1 : Lib.IsBuilderF 58 5 Bb Bb (Lib.byteCells d) (wr.drewN nq) := hBl
    have hZ1 : Bb ≤ (wr.drewN nq).heap.size := hBz
    clear c1 c2 hPq hG hBl hBz
    generalize wr.drewN nq = W1 at *
    clear wr
    have c1 := hP1.d
    have c2 := hP1.p
    go_wp2_with fail
    go_quiet (fail)
    have hP2 := hP1.draws nq
    have hG2 := grown_draws hG1 nq
    have hB2 : Lib.IsBuilderF 58 5 Bb Bb (Lib.byteCells d) (W1.drewN nq) := hB1
    have hZ2 : Bb ≤ (W1.drewN nq).heap.size := hZ1
    clear c1 c2 hP1 hG1 hB1 hZ1
    generalize W1.drewN nq = W2 at *
    clear W1 hi hne
    have c1 := hP2.d
    have c2 := hP2.p
    have c3 := hP2.f
    cases r with
    | nil =>
      have hy : (y.toNat : Int) = 34 := by
        have e : y :: ys = 34 :: t := HY.out.symm.trans HAq.out
        rw [(List.cons.inj e).1]; rfl
      rw [hy]
      have hw1 : IntKind.i64.wrap ((q : Int) + 1) = ((q + 1 : Nat) : Int) := by rw [IntKind.wrap_i64]; omega
      have hP3 := hP2.set (q + 1) (by omega)
      have hG3 : w.grownBy (W2.setCell ⟨B, 1, none⟩ (.int .i64 ((q + 1 : Nat) : Int))) (some B) := hG2.trans (grown_setCell _ _ _)
      have hB3 := bld_kept hB2 (grown_setCell W2 ⟨B, 1, none⟩ (.int .i64 ((q + 1 : Nat) : Int))) hBB
      have hZ3 : Bb ≤ (W2.setCell ⟨B, 1, none⟩ (.int .i64 ((q + 1 : Nat) : Int))).heap.size := by rw [size_setCell]; exact hZ2
      rw [show ((q + 1 : Nat) : Int) = (q : Int) + 1 from rfl] at hP3 hG3 hB3 hZ3
      have CS := Tryz.Builder_String_any_k Bb Bb d _ hB3 hZ3
      have HP : Hid (d = p) := by have := HD.out; rw [List.append_nil] at this; exact this.symm
      have hqe : Hid (q + 1 = pos + 1 + (encS p).length + 1) := by have := hq.out; simp only [encS, List.length_nil] at this; show _ = _; omega
      clear hB2 hB3 hZ2 HD HAq HY hget hG2 hP2 hy
      go_wp2_with fail
      refine CS.mono ?_
      rintro e w6 ⟨rfl, _, hBe, _⟩
      clear CS
      go_wp2
      go_ret2
      exact ⟨by rw [HP.out]; rfl, by rw [← hqe.out]; exact hP3.below hBe hBB, grown_then hG3 hBe hwB⟩
    | cons x r =>
      have HR := HAq.out
      simp only [encS, List.append_assoc] at HR
      have HD' : Hid (p = (d ++ [x]) ++ r) := by rw [HD.out]; simp [Hid]
      simp only [List.length_cons] at hr hdl
      clear HD
      rcases enc_cases x with ⟨he, h1⟩ | ⟨he, h1, h2⟩ | ⟨he, h1, h2, h3, h4⟩ | ⟨he, h1, h2, h3, h4⟩ | ⟨he, h1, h2, h3, h4, h5⟩ | ⟨he, h1, h2, h3, h4⟩
      · have hA2 : At doc q (92 :: x :: (encS r ++ 34 :: t)) := by rw [he] at HR; exact HR
        have hx : x = 34 ∨ x = 92 := .inl (UInt8.toNat_inj.1 (by have := eq_of_beq h1; show x.toNat = 34; omega))
        have hy : (y.toNat : Int) = 92 := by
          have e := HY.out.symm.trans hA2
          rw [(List.cons.inj e).1]; rfl
        rw [hy]
        have HQ : Hid (q + 2 + (encS r).length = pos + 1 + (encS p).length) := by
          have := hq.out
          simp only [encS, he, List.length_append, List.length_cons, List.length_nil] at this
          show _ = _
          omega
        have HN : Hid (At doc (q + 2) (encS r ++ 34 :: t)) := hA2.next.next
        clear hq HY HAq HR hget hy h1
        go_wp2_with fail
        go_quiet (fail)
        have hP3 := hP2.draws nq
        have hG3 := grown_draws hG2 nq
        have hB3 : Lib.IsBuilderF 58 5 Bb Bb (Lib.byteCells d) (W2.drewN nq) := hB2
        have hZ3 : Bb ≤ (W2.drewN nq).heap.size := hZ2
        clear c1 c2 c3 hP2 hG2 hB2 hZ2
        generalize W2.drewN nq = W3 at *
        clear W2
        have CE := escape_one B doc q x _ W3 hP3 hA2 hx
        clear hA2
        go_wp2_with fail
        refine CE.mono ?_
        rintro e w4 ⟨rfl, hP4, hG4⟩
        clear CE
        have hB4 := bld_kept hB3 hG4 hBB
        have hZ4 := Nat.le_trans hZ3 hG4.size
        have CW := Tryz.Builder_WriteString_k Bb Bb (Lib.byteCells d) ⟨#[x]⟩ w4 hB4 (by rw [cells_len]; show d.length + 1 ≤ _; omega) hZ4
        go_wp2_with fail
        refine CW.mono ?_
        rintro e w5 ⟨rfl, hB5, hBe, _⟩
        clear CW
        rw [cells_str] at hB5
        go_wp2
        go_roundg r.length
        case measure => omega
        case rel => exact ⟨d ++ [x], r, q + 2, rfl, HD', HQ, hP4.below hBe hBB, HN, .inr hB5, Nat.le_trans hZ4 hBe.size, grown_then (hG3.trans hG4) hBe hwB⟩
      · have hA2 : At doc q (92 :: x :: (encS r ++ 34 :: t)) := by rw [he] at HR; exact HR
        have hx : x = 34 ∨ x = 92 := .inr (UInt8.toNat_inj.1 (by have := eq_of_beq h2; show x.toNat = 92; omega))
        have hy : (y.toNat : Int) = 92 := by
          have e := HY.out.symm.trans hA2
          rw [(List.cons.inj e).1]; rfl
        rw [hy]
        have HQ : Hid (q + 2 + (encS r).length = pos + 1 + (encS p).length) := by
          have := hq.out
          simp only [encS, he, List.length_append, List.length_cons, List.length_nil] at this
          show _ = _
          omega
        have HN : Hid (At doc (q + 2) (encS r ++ 34 :: t)) := hA2.next.next
        clear hq HY HAq HR hget hy h1 h2
        go_wp2_with fail
        go_quiet (fail)
        have hP3 := hP2.draws nq
        have hG3 := grown_draws hG2 nq
        have hB3 : Lib.IsBuilderF 58 5 Bb Bb (Lib.byteCells d) (W2.drewN nq) := hB2
        have hZ3 : Bb ≤ (W2.drewN nq).heap.size := hZ2
        clear c1 c2 c3 hP2 hG2 hB2 hZ2
        generalize W2.drewN nq = W3 at *
        clear W2
        have CE := escape_one B doc q x _ W3 hP3 hA2 hx
        clear hA2
        go_wp2_with fail
        refine CE.mono ?_
        rintro e w4 ⟨rfl, hP4, hG4⟩
        clear CE
        have hB4 := bld_kept hB3 hG4 hBB
        have hZ4 := Nat.le_trans hZ3 hG4.size
        have CW := Tryz.Builder_WriteString_k Bb Bb (Lib.byteCells d) ⟨#[x]⟩ w4 hB4 (by rw [cells_len]; show d.length + 1 ≤ _; omega) hZ4
        go_wp2_with fail
        refine CW.mono ?_
        rintro e w5 ⟨rfl, hB5, hBe, _⟩
        clear CW
        rw [cells_str] at hB5
        go_wp2
        go_roundg r.length
        case measure => omega
        case rel => exact ⟨d ++ [x], r, q + 2, rfl, HD', HQ, hP4.below hBe hBB, HN, .inr hB5, Nat.le_trans hZ4 hBe.size, grown_then (hG3.trans hG4) hBe hwB⟩
      · have hA2 : At doc q (92 :: 120 :: hexD (x >>> 4) :: hexD (x &&& 15) :: (encS r ++ 34 :: t)) := by rw [he] at HR; exact HR
        have hx128 : x.toNat < 128 := by have := of_decide_eq_true h3; omega
        obtain ⟨xa, xb, hxa, hxb, hA2, hxv⟩ : ∃ a b, isHx a ∧ isHx b ∧ At doc q (92 :: 120 :: a :: b :: (encS r ++ 34 :: t)) ∧ 16 * hv a + hv b = x.toNat := by
          have q1 := hexD_is (x >>> 4) (by rw [hi4]; omega)
          have q2 := hexD_is (x &&& 15) (by rw [lo4]; omega)
          exact ⟨_, _, q1.1, q2.1, hA2, by rw [q1.2, q2.2, hi4, lo4]; omega⟩
        have hxo : UInt8.ofNat x.toNat = x := by simp
        have hy : (y.toNat : Int) = 92 := by
          have e := HY.out.symm.trans hA2
          rw [(List.cons.inj e).1]; rfl
        rw [hy]
        have HQ : Hid (q + 4 + (encS r).length = pos + 1 + (encS p).length) := by
          have := hq.out
          simp only [encS, he, List.length_append, List.length_cons, List.length_nil] at this
          show _ = _
          omega
        have HN : Hid (At doc (q + 4) (encS r ++ 34 :: t)) := hA2.next.next.next.next
        clear hq HY HAq HR hget hy h1 h2 h3 h4
        go_wp2_with fail
        go_quiet (fail)
        have hP3 := hP2.draws nq
        have hG3 := grown_draws hG2 nq
        have hB3 : Lib.IsBuilderF 58 5 Bb Bb (Lib.byteCells d) (W2.drewN nq) := hB2
        have hZ3 : Bb ≤ (W2.drewN nq).heap.size := hZ2
        clear c1 c2 c3 hP2 hG2 hB2 hZ2
        generalize W2.drewN nq = W3 at *
        clear W2
        have CE := escape_hex B doc q xa xb _ W3 hP3 hA2 hxa hxb (by omega)
        rw [hxv, hxo] at CE
        clear hA2
        go_wp2_with fail
        refine CE.mono ?_
        rintro e w4 ⟨rfl, hP4, hG4⟩
        clear CE
        have hB4 := bld_kept hB3 hG4 hBB
        have hZ4 := Nat.le_trans hZ3 hG4.size
        have CW := Tryz.Builder_WriteString_k Bb Bb (Lib.byteCells d) ⟨#[x]⟩ w4 hB4 (by rw [cells_len]; show d.length + 1 ≤ _; omega) hZ4
        go_wp2_with fail
        refine CW.mono ?_
        rintro e w5 ⟨rfl, hB5, hBe, _⟩
        clear CW
        rw [cells_str] at hB5
        go_wp2
        go_roundg r.length
        case measure => omega
        case rel => exact ⟨d ++ [x], r, q + 4, rfl, HD', HQ, hP4.below hBe hBB, HN, .inr hB5, Nat.le_trans hZ4 hBe.size, grown_then (hG3.trans hG4) hBe hwB⟩
      · have hA2 : At doc q (92 :: 120 :: hexD (x >>> 4) :: hexD (x &&& 15) :: (encS r ++ 34 :: t)) := by rw [he] at HR; exact HR
        have hx128 : x.toNat < 128 := by have := eq_of_beq h4; omega
        obtain ⟨xa, xb, hxa, hxb, hA2, hxv⟩ : ∃ a b, isHx a ∧ isHx b ∧ At doc q (92 :: 120 :: a :: b :: (encS r ++ 34 :: t)) ∧ 16 * hv a + hv b = x.toNat := by
          have q1 := hexD_is (x >>> 4) (by rw [hi4]; omega)
          have q2 := hexD_is (x &&& 15) (by rw [lo4]; omega)
          exact ⟨_, _, q1.1, q2.1, hA2, by rw [q1.2, q2.2, hi4, lo4]; omega⟩
        have hxo : UInt8.ofNat x.toNat = x := by simp
        have hy : (y.toNat : Int) = 92 := by
          have e := HY.out.symm.trans hA2
          rw [(List.cons.inj e).1]; rfl
        rw [hy]
        have HQ : Hid (q + 4 + (encS r).length = pos + 1 + (encS p).length) := by
          have := hq.out
          simp only [encS, he, List.length_append, List.length_cons, List.length_nil] at this
          show _ = _
          omega
        have HN : Hid (At doc (q + 4) (encS r ++ 34 :: t)) := hA2.next.next.next.next
        clear hq HY HAq HR hget hy h1 h2 h3 h4
        go_wp2_with fail
        go_quiet (fail)
        have hP3 := hP2.draws nq
        have hG3 := grown_draws hG2 nq
        have hB3 : Lib.IsBuilderF 58 5 Bb Bb (Lib.byteCells d) (W2.drewN nq) := hB2
        have hZ3 : Bb ≤ (W2.drewN nq).heap.size := hZ2
        clear c1 c2 c3 hP2 hG2 hB2 hZ2
        generalize W2.drewN nq = W3 at *
        clear W2
        have CE := escape_hex B doc q xa xb _ W3 hP3 hA2 hxa hxb (by omega)
        rw [hxv, hxo] at CE
        clear hA2
        go_wp2_with fail
        refine CE.mono ?_
        rintro e w4 ⟨rfl, hP4, hG4⟩
        clear CE
        have hB4 := bld_kept hB3 hG4 hBB
        have hZ4 := Nat.le_trans hZ3 hG4.size
        have CW := Tryz.Builder_WriteString_k Bb Bb (Lib.byteCells d) ⟨#[x]⟩ w4 hB4 (by rw [cells_len]; show d.length + 1 ≤ _; omega) hZ4
        go_wp2_with fail
        refine CW.mono ?_
        rintro e w5 ⟨rfl, hB5, hBe, _⟩
        clear CW
        rw [cells_str] at hB5
        go_wp2
        go_roundg r.length
        case measure => omega
        case rel => exact ⟨d ++ [x], r, q + 4, rfl, HD', HQ, hP4.below hBe hBB, HN, .inr hB5, Nat.le_trans hZ4 hBe.size, grown_then (hG3.trans hG4) hBe hwB⟩
      · have hA2 : At doc q (x :: (encS r ++ 34 :: t)) := by rw [he] at HR; exact HR
        have hy : (y.toNat : Int) = (x.toNat : Int) := by
          have e := HY.out.symm.trans hA2
          rw [(List.cons.inj e).1]
        rw [hy]
        have HQ : Hid (q + 1 + (encS r).length = pos + 1 + (encS p).length) := by
          have := hq.out
          simp only [encS, he, List.length_append, List.length_cons, List.length_nil] at this
          show _ = _
          omega
        have HN : Hid (At doc (q + 1) (encS r ++ 34 :: t)) := hA2.next
        have CC := fun w => isControl_no x (.inl ⟨h3, h4, h5⟩) w
        have h10 : ((x.toNat : Int) == 10) = false := beq_eq_false_iff_ne.2 (by have := eq_of_beq h4; omega)
        have h13 : ((x.toNat : Int) == 13) = false := beq_eq_false_iff_ne.2 (by have := eq_of_beq h4; omega)
        clear hq HY HAq HR hget hy hA2
        go_wp2_with fail
        go_quiet (fail)
        have hP3 := hP2.draws nq
        have hG3 := grown_draws hG2 nq
        have hB3 : Lib.IsBuilderF 58 5 Bb Bb (Lib.byteCells d) (W2.drewN nq) := hB2
        have hZ3 : Bb ≤ (W2.drewN nq).heap.size := hZ2
        clear c1 c2 c3 hP2 hG2 hB2 hZ2
        generalize W2.drewN nq = W3 at *
        clear W2
        go_wp2_with fail
        go_quiet (fail)
        have hP4 := hP3.draws nq
        have hG4 := grown_draws hG3 nq
        have hB4 : Lib.IsBuilderF 58 5 Bb Bb (Lib.byteCells d) (W3.drewN nq) := hB3
        have hZ4 : Bb ≤ (W3.drewN nq).heap.size := hZ3
        clear hP3 hG3 hB3 hZ3
        generalize W3.drewN nq = W4 at *
        clear W3
        go_wp2_with fail
        refine (CC _).mono ?_
        rintro e w5 ⟨rfl, rfl⟩
        clear CC
        have CW := Tryz.Builder_WriteByte_k Bb Bb (Lib.byteCells d) (x.toNat : Int) _ hB4 (by rw [cells_len]; omega) hZ4
        go_wp2_with fail
        refine CW.mono ?_
        rintro e w6 ⟨rfl, hB6, hBe, _⟩
        clear CW
        rw [cells_snoc] at hB6
        have hP6 := hP4.below hBe hBB
        have hG6 := grown_then hG4 hBe hwB
        have hZ6 := Nat.le_trans hZ4 hBe.size
        have c2 := hP6.p
        have c3 := hP6.f
        have hw1 : IntKind.i64.wrap ((q : Int) + 1) = ((q + 1 : Nat) : Int) := by rw [IntKind.wrap_i64]; omega
        have hP7 := hP6.set (q + 1) (by omega)
        have hG7 : w.grownBy (w6.setCell ⟨B, 1, none⟩ (.int .i64 ((q + 1 : Nat) : Int))) (some B) := hG6.trans (grown_setCell _ _ _)
        have hB7 := bld_kept (.inr hB6) (grown_setCell w6 ⟨B, 1, none⟩ (.int .i64 ((q + 1 : Nat) : Int))) hBB
        have hZ7 : Bb ≤ (w6.setCell ⟨B, 1, none⟩ (.int .i64 ((q + 1 : Nat) : Int))).heap.size := by rw [size_setCell]; exact hZ6
        go_wp2
        go_roundg r.length
        case measure => omega
        case rel => exact ⟨d ++ [x], r, q + 1, rfl, HD', HQ, hP7, HN, hB7, hZ7, hG7⟩
      · have hA2 : At doc q (x :: (encS r ++ 34 :: t)) := by rw [he] at HR; exact HR
        have hy : (y.toNat : Int) = (x.toNat : Int) := by
          have e := HY.out.symm.trans hA2
          rw [(List.cons.inj e).1]
        rw [hy]
        have HQ : Hid (q + 1 + (encS r).length = pos + 1 + (encS p).length) := by
          have := hq.out
          simp only [encS, he, List.length_append, List.length_cons, List.length_nil] at this
          show _ = _
          omega
        have HN : Hid (At doc (q + 1) (encS r ++ 34 :: t)) := hA2.next
        have CC := fun w => isControl_no x (.inr ⟨h3, h4⟩) w
        have h10 : ((x.toNat : Int) == 10) = false := beq_eq_false_iff_ne.2 (by have := of_decide_eq_false h3; omega)
        have h13 : ((x.toNat : Int) == 13) = false := beq_eq_false_iff_ne.2 (by have := of_decide_eq_false h3; omega)
        clear hq HY HAq HR hget hy hA2
        go_wp2_with fail
        go_quiet (fail)
        have hP3 := hP2.draws nq
        have hG3 := grown_draws hG2 nq
        have hB3 : Lib.IsBuilderF 58 5 Bb Bb (Lib.byteCells d) (W2.drewN nq) := hB2
        have hZ3 : Bb ≤ (W2.drewN nq).heap.size := hZ2
        clear c1 c2 c3 hP2 hG2 hB2 hZ2
        generalize W2.drewN nq = W3 at *
        clear W2
        go_wp2_with fail
        go_quiet (fail)
        have hP4 := hP3.draws nq
        have hG4 := grown_draws hG3 nq
        have hB4 : Lib.IsBuilderF 58 5 Bb Bb (Lib.byteCells d) (W3.drewN nq) := hB3
        have hZ4 : Bb ≤ (W3.drewN nq).heap.size := hZ3
        clear hP3 hG3 hB3 hZ3
        generalize W3.drewN nq = W4 at *
        clear W3
        go_wp2_with fail
        refine (CC _).mono ?_
        rintro e w5 ⟨rfl, rfl⟩
        clear CC
        have CW := Tryz.Builder_WriteByte_k Bb Bb (Lib.byteCells d) (x.toNat : Int) _ hB4 (by rw [cells_len]; omega) hZ4
        go_wp2_with fail
        refine CW.mono ?_
        rintro e w6 ⟨rfl, hB6, hBe, _⟩
        clear CW
        rw [cells_snoc] at hB6
        have hP6 := hP4.below hBe hBB
        have hG6 := grown_then hG4 hBe hwB
        have hZ6 := Nat.le_trans hZ4 hBe.size
        have c2 := hP6.p
        have c3 := hP6.f
        have hw1 : IntKind.i64.wrap ((q : Int) + 1) = ((q + 1 : Nat) : Int) := by rw [IntKind.wrap_i64]; omega
        have hP7 := hP6.set (q + 1) (by omega)
        have hG7 : w.grownBy (w6.setCell ⟨B, 1, none⟩ (.int .i64 ((q + 1 : Nat) : Int))) (some B) := hG6.trans (grown_setCell _ _ _)
        have hB7 := bld_kept (.inr hB6) (grown_setCell w6 ⟨B, 1, none⟩ (.int .i64 ((q + 1 : Nat) : Int))) hBB
        have hZ7 : Bb ≤ (w6.setCell ⟨B, 1, none⟩ (.int .i64 ((q + 1 : Nat) : Int))).heap.size := by rw [size_setCell]; exact hZ6
        go_wp2
        go_roundg r.length
        case measure => omega
        case rel => exact ⟨d ++ [x], r, q + 1, rfl, HD', HQ, hP7, HN, hB7, hZ7, hG7⟩
end Go.Proofs.Qxb6604678aGreatFmt
