import Derived.Test.Qxb6604678aGreatFmtF
namespace Go.Proofs.Qxb6604678aGreatFmt
open Go Go.RowKit

theorem pre_head (q x : UInt8) (r : Bs) (h : x ≠ q) : Lib.hasPrefix (x :: r) [q, q, q] = false := by
  show ((q == x) && _) = false
  rw [beq_eq_false_iff_ne.2 (Ne.symm h)]
  rfl

set_option maxRecDepth 100000 in
set_option maxHeartbeats 1600000 in
theorem basic_any (B : Nat) (doc : ByteArray) (pos : Nat) (p t : Bs) (w : World) (hP : PS B doc pos w) (hA : At doc pos (34 :: (encS p ++ 34 :: t))) (hno : Lib.hasPrefix (34 :: (encS p ++ 34 :: t)) [34, 34, 34] = false) :
    Calls Tryz.prog 19 #[.pointer (some ⟨B, 0, none⟩)] w fun e w' => Gives B doc (pos + 1 + (encS p).length + 1) ⟨p.toArray⟩ w e w' := by
  have CALL := quoted_any B doc pos p t w hP hA hno
  clear hA hno
  go_enter Tryz.func19, Tryz.ntmps19
  go_wp2_with fail
  refine CALL.mono ?_
  rintro e w1 ⟨rfl, hP1, hG1⟩
  clear CALL
  go_wp2
  go_ret2
  exact ⟨rfl, hP1, hG1⟩

set_option maxRecDepth 100000 in
set_option maxHeartbeats 1600000 in
theorem keyPart_quoted (B : Nat) (doc : ByteArray) (pos : Nat) (p t : Bs) (w : World) (hP : PS B doc pos w) (hA : At doc pos (34 :: (encS p ++ 34 :: t))) (hno : Lib.hasPrefix (34 :: (encS p ++ 34 :: t)) [34, 34, 34] = false) :
    Calls Tryz.prog 14 #[.pointer (some ⟨B, 0, none⟩)] w fun e w' => Gives B doc (pos + 1 + (encS p).length + 1) ⟨p.toArray⟩ w e w' := by
  have c1 := hP.d
  have c2 := hP.p
  have hlt := hA.lt
  have hi1 : (pos : Int) ≤ (doc.size : Int) := by omega
  have hi2 : (0 : Int) ≤ (pos : Int) := by omega
  have H1 := fun n => Calls.quiet_of_same (w := w) (n := n) (pre_no hA 34 hno (w.drewN n))
  have H2 := fun n => Calls.quiet_of_same (w := w) (n := n) (pre_no hA 39 (pre_head 39 34 _ (by decide)) (w.drewN n))
  have HA : Hid (At doc pos (34 :: (encS p ++ 34 :: t))) := hA
  have HNO : Hid (Lib.hasPrefix (34 :: (encS p ++ 34 :: t)) [34, 34, 34] = false) := hno
  clear hA hno
  go_enter Tryz.func14, Tryz.ntmps14
  go_wp2_with fail
  go_quiet (first | (go_at_call 16; exact H1 _) | (go_at_call 16; exact H2 _) | fail)
  clear H1 H2
  have hP1 := hP.draws nq
  have hG1 := grown_draws (World.grownBy.refl w (some B)) nq
  clear c1 c2
  generalize w.drewN nq = W1 at *
  have CP := peek_any B doc pos 34 _ W1 hP1 HA.out
  rw [show (((34 : UInt8).toNat : Int)) = 34 from rfl] at CP
  go_wp2_with fail
  refine CP.mono ?_
  rintro e w2 ⟨rfl, m2, rfl⟩
  clear CP
  have hP2 := hP1.draws m2
  have hG2 := grown_draws hG1 m2
  generalize W1.drewN m2 = W2 at *
  have CB := basic_any B doc pos p t W2 hP2 HA.out HNO.out
  go_wp2_with fail
  refine CB.mono ?_
  rintro e w3 ⟨rfl, hP3, hG3⟩
  clear CB
  go_wp2
  go_ret2
  exact ⟨rfl, hP3, hG2.trans hG3⟩

set_option maxRecDepth 100000 in
set_option maxHeartbeats 3200000 in
theorem keyPart_bare (B : Nat) (doc : ByteArray) (pos : Nat) (p : Bs) (x : UInt8) (t : Bs) (w : World) (hP : PS B doc pos w) (hA : At doc pos (p ++ x :: t)) (hne : p ≠ []) (hp : p.all bareB = true) (hx : bareB x = false) :
    Calls Tryz.prog 14 #[.pointer (some ⟨B, 0, none⟩)] w fun e w' => Gives B doc (pos + p.length) ⟨p.toArray⟩ w e w' := by
  obtain ⟨c0, p0, hp0⟩ := List.exists_cons_of_ne_nil hne
  have hA0 : At doc pos (c0 :: (p0 ++ x :: t)) := by rw [hp0] at hA; exact hA
  have hb0 : bareB c0 = true := by rw [hp0] at hp; simp at hp; exact hp.1
  have n34 : c0 ≠ 34 := fun e => by rw [e] at hb0; exact absurd hb0 (by decide)
  have n39 : c0 ≠ 39 := fun e => by rw [e] at hb0; exact absurd hb0 (by decide)
  have b34 : ((c0.toNat : Int) == 34) = false := by rw [show (34 : Int) = ((34 : UInt8).toNat : Int) from rfl, byte_is]; simpa using n34
  have b39 : ((c0.toNat : Int) == 39) = false := by rw [show (39 : Int) = ((39 : UInt8).toNat : Int) from rfl, byte_is]; simpa using n39
  have hpl : 0 < p.length := by rw [hp0]; simp
  have c1 := hP.d
  have c2 := hP.p
  have hlt := hA0.lt
  have hi1 : (pos : Int) ≤ (doc.size : Int) := by omega
  have hi2 : (0 : Int) ≤ (pos : Int) := by omega
  have H1 := fun n => Calls.quiet_of_same (w := w) (n := n) (pre_no hA0 34 (pre_head 34 c0 _ n34) (w.drewN n))
  have H2 := fun n => Calls.quiet_of_same (w := w) (n := n) (pre_no hA0 39 (pre_head 39 c0 _ n39) (w.drewN n))
  have HA0 : Hid (At doc pos (c0 :: (p0 ++ x :: t))) := hA0
  have HA : Hid (At doc pos (p ++ x :: t)) := hA
  have HP : Hid (p.all bareB = true) := hp
  clear hA hA0 hp hp0 hne hb0 n34 n39
  go_enter Tryz.func14, Tryz.ntmps14
  go_wp2_with fail
  go_quiet (first | (go_at_call 16; exact H1 _) | (go_at_call 16; exact H2 _) | fail)
  clear H1 H2
  have hP1 := hP.draws nq
  have hG1 := grown_draws (World.grownBy.refl w (some B)) nq
  clear c1 c2
  generalize w.drewN nq = W1 at *
  have CP := peek_any B doc pos c0 _ W1 hP1 HA0.out
  go_wp2_with fail
  refine CP.mono ?_
  rintro e w2 ⟨rfl, m2, rfl⟩
  clear CP
  have hP2 := hP1.draws m2
  have hG2 := grown_draws hG1 m2
  generalize W1.drewN m2 = W2 at *
  have CP := peek_any B doc pos c0 _ W2 hP2 HA0.out
  go_wp2_with fail
  refine CP.mono ?_
  rintro e w3 ⟨rfl, m3, rfl⟩
  clear CP
  have hP3 := hP2.draws m3
  have hG3 := grown_draws hG2 m3
  generalize W2.drewN m3 = W3 at *
  clear hP1 hP2 hG1 hG2
  have c2 := hP3.p
  go_wp2_with fail
  clear c2
  go_loopg [50] p.length (fun g _ wx => ∃ (b : Bs) (q : Nat), b.length = g ∧ Hid (q + g = pos + p.length) ∧ PS B doc q wx ∧ Hid (At doc q (b ++ x :: t)) ∧ Hid (b.all bareB = true) ∧ w.grownBy wx (some B))
  case atStart => exact ⟨p, pos, rfl, rfl, hP3, HA, HP, hG3⟩
  case round =>
    obtain ⟨b, q, hb, HQ, hPq, HAq, HB, hG⟩ := hrel
    clear hP3 hG3
    have c1 := hPq.d
    have c2 := hPq.p
    have hsm := hPq.small
    have h0 : (0 : Int) ≤ (q : Int) := by omega
    cases b with
    | nil =>
      simp only [List.length_nil] at hb
      subst hb
      have HA' : At doc q (x :: t) := HAq.out
      have hlq := HA'.lt
      have hget := HA'.get hlq
      have hi : (q : Int) < (doc.size : Int) := by omega
      have hd : decide ((q : Int) < (doc.size : Int)) = true := by simpa using hi
      have CB := fun n => Calls.quiet_of_same (w := wr) (n := n) (v := .bool false) (by have := isBare_any x (wr.drewN n); rw [hx] at this; exact this)
      clear HA'
      go_wp2_with fail
      go_quiet (first | (go_at_call 21; exact CB _) | fail)
      clear CB
      have hP4 := hPq.draws nq
      have hG4 := grown_draws hG nq
      clear c1 c2 hPq hG
      generalize wr.drewN nq = W4 at *
      have c1 := hP4.d
      have c2 := hP4.p
      have hqe : q = pos + p.length := HQ.out
      have hqs : ((q : Int) == (pos : Int)) = false := beq_eq_false_iff_ne.2 (by omega)
      have hj1 : (pos : Int) ≤ (q : Int) := by omega
      have hj2 : (q : Int) ≤ (doc.size : Int) := by omega
      have HX : Hid (doc.extract pos q = ⟨p.toArray⟩) := by
        show _ = _
        rw [extract_list, show doc.data.toList.drop pos = p ++ x :: t from HA.out, hqe, show pos + p.length - pos = p.length from by omega, List.take_left]
      have HQE : Hid (q = pos + p.length) := hqe
      clear hqe hget HQ
      go_wp2_with fail
      go_quiet (fail)
      go_wp2
      go_ret2
      exact ⟨by rw [HX.out]; rfl, by rw [← HQE.out]; exact hP4.draws _, grown_draws hG4 _⟩
    | cons y b =>
      have HA' : At doc q (y :: (b ++ x :: t)) := HAq.out
      have hlq := HA'.lt
      have hget := HA'.get hlq
      have HN : Hid (At doc (q + 1) (b ++ x :: t)) := HA'.next
      have hy : bareB y = true ∧ b.all bareB = true := by have := HB.out; simpa using this
      have HB' : Hid (b.all bareB = true) := hy.2
      have hi : (q : Int) < (doc.size : Int) := by omega
      have hd : decide ((q : Int) < (doc.size : Int)) = true := by simpa using hi
      have CB := fun n => Calls.quiet_of_same (w := wr) (n := n) (v := .bool true) (by have := isBare_any y (wr.drewN n); rw [hy.1] at this; exact this)
      simp only [List.length_cons] at hb
      have HQ' : Hid (q + 1 + b.length = pos + p.length) := by have := HQ.out; show _ = _; omega
      clear HA' hy HB HAq HQ
      go_wp2_with fail
      go_quiet (first | (go_at_call 21; exact CB _) | fail)
      clear CB
      have hP4 := hPq.draws nq
      have hG4 := grown_draws hG nq
      clear c1 c2 hPq hG
      generalize wr.drewN nq = W4 at *
      have c2 := hP4.p
      have c3 := hP4.f
      have hw1 : IntKind.i64.wrap ((q : Int) + 1) = ((q + 1 : Nat) : Int) := by rw [IntKind.wrap_i64]; omega
      have hP5 := hP4.set (q + 1) (by omega)
      have hG5 : w.grownBy (W4.setCell ⟨B, 1, none⟩ (.int .i64 ((q + 1 : Nat) : Int))) (some B) := hG4.trans (grown_setCell _ _ _)
      clear hget
      go_wp2
      go_roundg b.length
      case measure => omega
      case rel => exact ⟨b, q + 1, rfl, HQ', hP5, HN, HB', hG5⟩
end Go.Proofs.Qxb6604678aGreatFmt
