import Derived.Test.Qxb6604678aGreatFmtU
import Derived.Test.Qxb6604678aGreatFmtShelf
namespace Go.Proofs.Qxb6604678aGreatFmt
open Go Go.RowKit

theorem enc_ascii (n : Nat) (h : n < 128) : Utf8.encode (n : Int) = ⟨#[UInt8.ofNat n]⟩ := by
  unfold Utf8.encode Utf8.valid
  have h1 : (decide ((0 : Int) ≤ (n : Int)) && decide ((n : Int) < 55296)) = true := by simp; omega
  simp only [h1, Bool.true_or, if_true, Int.toNat_natCast]
  rw [if_pos h]
theorem enc_byte (c : UInt8) (h : c.toNat < 128) : Utf8.encode (c.toNat : Int) = ⟨#[c]⟩ := by
  rw [enc_ascii c.toNat h]
  simp

set_option maxRecDepth 100000 in
set_option maxHeartbeats 1600000 in
theorem pub_any (a b : UInt8) (ha : isHx a) (hb : isHx b) (w : World) : Calls Tryz.prog 53 #[.string ⟨#[a, b]⟩, .int .i64 16, .int .i64 32] w fun e w' => PuSays (16 * hv a + hv b) w e w' := by
  have CALL := pu_any a b ha hb w
  go_enter Tryz.func53, Tryz.ntmps53
  go_wp2_with fail
  refine CALL.mono ?_
  rintro e w1 ⟨rfl, hB⟩
  clear CALL
  go_wp2
  go_ret2
  exact ⟨rfl, hB⟩

/-- It answers a string and no error, and the parser stands at q. -/
def Gives (B : Nat) (doc : ByteArray) (q : Nat) (s : ByteArray) (w : World) (e : Ending) (w' : World) : Prop := e = .returned (.tuple #[.string s, .nilIface]) ∧ PS B doc q w' ∧ w.grownBy w' (some B)

/-- Which letter stands behind the backslash. -/
def EscC (n : Int) : Prop :=
  (n == 98) = false ∧ (n == 116) = false ∧ (n == 110) = false ∧ (n == 102) = false ∧ (n == 114) = false ∧ (n == 101) = false ∧
  ((n == 34) = true ∨ ((n == 34) = false ∧ (n == 92) = true))
theorem esc_cases (c : UInt8) (hc : c = 34 ∨ c = 92) : EscC (c.toNat : Int) := by
  rcases hc with rfl | rfl
  · exact ⟨rfl, rfl, rfl, rfl, rfl, rfl, .inl rfl⟩
  · exact ⟨rfl, rfl, rfl, rfl, rfl, rfl, .inr ⟨rfl, rfl⟩⟩

set_option maxRecDepth 100000 in
set_option maxHeartbeats 3200000 in
theorem escape_one (B : Nat) (doc : ByteArray) (pos : Nat) (c : UInt8) (t : Bs) (w : World) (hP : PS B doc pos w) (hA : At doc pos (92 :: c :: t)) (hc : c = 34 ∨ c = 92) :
    Calls Tryz.prog 37 #[.pointer (some ⟨B, 0, none⟩)] w fun e w' => Gives B doc (pos + 2) ⟨#[c]⟩ w e w' := by
  have c2 := hP.p
  have c3 := hP.f
  have hsm := hP.small
  have hA1 := hA.next
  have hl1 := hA1.lt
  have hw1 : IntKind.i64.wrap ((pos : Int) + 1) = ((pos + 1 : Nat) : Int) := by rw [IntKind.wrap_i64]; omega
  have hP1 := hP.set (pos + 1) (by omega)
  have hG1 : w.grownBy (w.setCell ⟨B, 1, none⟩ (.int .i64 ((pos + 1 : Nat) : Int))) (some B) := grown_setCell _ _ _
  have CALL := peek_any B doc (pos + 1) c t _ hP1 hA1
  have HE : Hid (Utf8.encode (c.toNat : Int) = ⟨#[c]⟩) := enc_byte c (by rcases hc with rfl | rfl <;> decide)
  obtain ⟨b1, b2, b3, b4, b5, b6, hcs⟩ := esc_cases c hc
  clear hc
  rw [show ((pos + 1 : Nat) : Int) = (pos : Int) + 1 from rfl] at CALL hP1 hG1
  go_enter Tryz.func37, Tryz.ntmps37
  go_wp2_with fail
  refine CALL.mono ?_
  rintro e w2 ⟨rfl, m, rfl⟩
  clear CALL
  have hP2 := hP1.draws m
  have hG2 := grown_draws hG1 m
  clear hP hP1 hG1 c2 c3
  generalize World.drewN (w.setCell ⟨B, 1, none⟩ (.int .i64 ((pos : Int) + 1))) m = W at *
  have c2 := hP2.p
  have c3 := hP2.f
  have hw2 : IntKind.i64.wrap (((pos + 1 : Nat) : Int) + 1) = ((pos + 2 : Nat) : Int) := by rw [IntKind.wrap_i64]; omega
  have hR := hP2.set (pos + 2) (by omega)
  have hG3 : w.grownBy (W.setCell ⟨B, 1, none⟩ (.int .i64 ((pos + 2 : Nat) : Int))) (some B) := hG2.trans (grown_setCell _ _ _)
  rcases hcs with d1 | ⟨d1, d2⟩
  all_goals
    go_wp2
    go_ret2
    exact ⟨by rw [HE.out]; rfl, hR, hG3⟩

theorem slice_two {doc : ByteArray} {q : Nat} {a b : UInt8} {t : Bs} (h : At doc q (a :: b :: t)) : doc.extract q (q + 2) = ⟨#[a, b]⟩ := by
  rw [extract_list, show doc.data.toList.drop q = a :: b :: t from h, show q + 2 - q = 2 from by omega]
  rfl

set_option maxRecDepth 100000 in
set_option maxHeartbeats 3200000 in
theorem escape_hex (B : Nat) (doc : ByteArray) (pos : Nat) (a b : UInt8) (t : Bs) (w : World) (hP : PS B doc pos w) (hA : At doc pos (92 :: 120 :: a :: b :: t)) (ha : isHx a) (hb : isHx b) (hv128 : 16 * hv a + hv b < 128) :
    Calls Tryz.prog 37 #[.pointer (some ⟨B, 0, none⟩)] w fun e w' => Gives B doc (pos + 4) ⟨#[UInt8.ofNat (16 * hv a + hv b)]⟩ w e w' := by
  have c2 := hP.p
  have c3 := hP.f
  have hsm := hP.small
  have hA1 := hA.next
  have hA2 := hA1.next
  have hl1 := hA1.lt
  have hl3 := hA2.next.lt
  have hw1 : IntKind.i64.wrap ((pos : Int) + 1) = ((pos + 1 : Nat) : Int) := by rw [IntKind.wrap_i64]; omega
  have hP1 := hP.set (pos + 1) (by omega)
  have hG1 : w.grownBy (w.setCell ⟨B, 1, none⟩ (.int .i64 ((pos + 1 : Nat) : Int))) (some B) := grown_setCell _ _ _
  have CALL := peek_any B doc (pos + 1) 120 (a :: b :: t) _ hP1 hA1
  rw [show (((120 : UInt8).toNat : Int)) = 120 from rfl] at CALL
  have HS : Hid (doc.extract (pos + 2) (pos + 2 + 2) = ⟨#[a, b]⟩) := slice_two hA2
  have HE : Hid (Utf8.encode ((16 * hv a + hv b : Nat) : Int) = ⟨#[UInt8.ofNat (16 * hv a + hv b)]⟩) := enc_ascii _ hv128
  have CPU := fun w => pub_any a b ha hb w
  generalize 16 * hv a + hv b = n at *
  rw [show ((pos + 1 : Nat) : Int) = (pos : Int) + 1 from rfl] at CALL hP1 hG1
  clear hA hA1 hA2
  go_enter Tryz.func37, Tryz.ntmps37
  go_wp2_with fail
  refine CALL.mono ?_
  rintro e w2 ⟨rfl, m, rfl⟩
  clear CALL
  have hP2 := hP1.draws m
  have hG2 := grown_draws hG1 m
  clear hP hP1 hG1 c2 c3
  generalize World.drewN (w.setCell ⟨B, 1, none⟩ (.int .i64 ((pos : Int) + 1))) m = W at *
  have c2 := hP2.p
  have c3 := hP2.f
  have hw2 : IntKind.i64.wrap (((pos + 1 : Nat) : Int) + 1) = ((pos + 2 : Nat) : Int) := by rw [IntKind.wrap_i64]; omega
  have hP3 := hP2.set (pos + 2) (by omega)
  have hG3 : w.grownBy (W.setCell ⟨B, 1, none⟩ (.int .i64 ((pos + 2 : Nat) : Int))) (some B) := hG2.trans (grown_setCell _ _ _)
  clear hG2
  have hw3 : IntKind.i64.wrap (((pos + 2 : Nat) : Int) + 2) = ((pos + 2 + 2 : Nat) : Int) := by rw [IntKind.wrap_i64]; omega
  go_wp2_with fail
  rw [show ((pos + 2 : Nat) : Int) = (pos : Int) + 1 + 1 from rfl] at hP3 hG3
  generalize hW3 : W.setCell ⟨B, 1, none⟩ (.int .i64 ((pos : Int) + 1 + 1)) = W3 at *
  clear hW3 c2 c3 hP2
  have c1 := hP3.d
  have c2 := hP3.p
  have c3 := hP3.f
  have hi1 : ((pos + 2 : Nat) : Int) ≤ ((pos + 2 + 2 : Nat) : Int) := by omega
  have hi2 : ((pos + 2 + 2 : Nat) : Int) ≤ (doc.size : Int) := by omega
  have hi3 : (0 : Int) ≤ ((pos + 2 : Nat) : Int) := by omega
  have hmn : ¬ ((doc.size : Int) < ((pos + 2 + 2 : Nat) : Int)) := by omega
  go_quiet (fail)
  rw [show (min ((pos : Int) + 2 + 2) (doc.size : Int)).toNat = pos + 2 + 2 from by omega, HS.out]
  have hP4 := hP3.draws nq
  have hG4 := grown_draws hG3 nq
  clear c1 c2 c3 hP3 hG3 hw3 hmn hi1 hi2 hi3
  generalize W3.drewN nq = W4 at *
  go_wp2_with fail
  refine (CPU _).mono ?_
  rintro e w5 ⟨rfl, hB5⟩
  clear CPU
  have hP5 := hP4.kept (row := none) (grown_below hB5 (Nat.le_refl _)) (by simp)
  have hG5 := hG4.trans (grown_below (row := some B) hB5 (Nat.le_refl _))
  have hvr := Tryz.utf8_ValidRune (n : Int) w5
  rw [show Lib.validRune (n : Int) = true from by simp [Lib.validRune]; omega] at hvr
  have hn32 : IntKind.i32.wrap (n : Int) = (n : Int) := by rw [IntKind.wrap_i32]; omega
  go_wp2_with fail
  refine hvr.mono ?_
  rintro e w6 ⟨rfl, rfl⟩
  clear hvr
  have c2 := hP5.p
  have c3 := hP5.f
  have hw3 : IntKind.i64.wrap (((pos + 2 : Nat) : Int) + 2) = ((pos + 4 : Nat) : Int) := by rw [IntKind.wrap_i64]; omega
  have hR := hP5.set (pos + 4) (by omega)
  have hG6 : w.grownBy (w6.setCell ⟨B, 1, none⟩ (.int .i64 ((pos + 4 : Nat) : Int))) (some B) := hG5.trans (grown_setCell _ _ _)
  go_wp2
  go_ret2
  exact ⟨by rw [HE.out]; rfl, hR, hG6⟩
end Go.Proofs.Qxb6604678aGreatFmt
