import Derived.Test.Qxb6604678aGreatFmtPlain
import Derived.Test.Qxb6604678aGreatFmtLaws3
import Derived.Test.Qxb6604678aGreatFmtProg
import Derived.Deep.QuietTactic
import Derived.BigQuiet
import Derived.RegionTactic
namespace Go.Proofs.Qxb6604678aGreatFmt
open Go Go.RowKit

def Yes (b : Bool) (w : World) (e : Ending) (w' : World) : Prop := e = .returned (.bool b) ∧ w' = w

def BareC (b : Bool) (n : Int) : Prop :=
  (b = false ∧ decide (65 ≤ n) = false ∧ decide (97 ≤ n) = false ∧ decide (48 ≤ n) = false ∧ (n == 95) = false ∧ (n == 45) = false) ∨
  (b = true ∧ decide (65 ≤ n) = false ∧ decide (97 ≤ n) = false ∧ decide (48 ≤ n) = false ∧ (n == 95) = false ∧ (n == 45) = true) ∨
  (b = true ∧ decide (65 ≤ n) = false ∧ decide (97 ≤ n) = false ∧ decide (48 ≤ n) = true ∧ decide (n ≤ 57) = true) ∨
  (b = false ∧ decide (65 ≤ n) = false ∧ decide (97 ≤ n) = false ∧ decide (48 ≤ n) = true ∧ decide (n ≤ 57) = false ∧ (n == 95) = false ∧ (n == 45) = false) ∨
  (b = true ∧ decide (65 ≤ n) = true ∧ decide (n ≤ 90) = true) ∨
  (b = false ∧ decide (65 ≤ n) = true ∧ decide (n ≤ 90) = false ∧ decide (97 ≤ n) = false ∧ decide (48 ≤ n) = true ∧ decide (n ≤ 57) = false ∧ (n == 95) = false ∧ (n == 45) = false) ∨
  (b = true ∧ decide (65 ≤ n) = true ∧ decide (n ≤ 90) = false ∧ decide (97 ≤ n) = false ∧ decide (48 ≤ n) = true ∧ decide (n ≤ 57) = false ∧ (n == 95) = true) ∨
  (b = true ∧ decide (65 ≤ n) = true ∧ decide (n ≤ 90) = false ∧ decide (97 ≤ n) = true ∧ decide (n ≤ 122) = true) ∨
  (b = false ∧ decide (65 ≤ n) = true ∧ decide (n ≤ 90) = false ∧ decide (97 ≤ n) = true ∧ decide (n ≤ 122) = false ∧ decide (48 ≤ n) = true ∧ decide (n ≤ 57) = false ∧ (n == 95) = false ∧ (n == 45) = false)

theorem bare_cases (c : UInt8) : BareC (bareB c) (c.toNat : Int) := by
  unfold BareC
  have hb : (bareB c = true ↔ ((65 ≤ c.toNat ∧ c.toNat ≤ 90) ∨ (97 ≤ c.toNat ∧ c.toNat ≤ 122) ∨ (48 ≤ c.toNat ∧ c.toNat ≤ 57) ∨ c.toNat = 95 ∨ c.toNat = 45)) := by
    unfold bareB
    simp only [Bool.or_eq_true, Bool.and_eq_true, decide_eq_true_eq, or_assoc]
  have hf : (bareB c = false ↔ ¬ bareB c = true) := by simp
  simp only [decide_eq_true_eq, decide_eq_false_iff_not, beq_iff_eq, beq_eq_false_iff_ne, ne_eq, hf, hb]
  generalize c.toNat = n
  have hn : (n < 45 ∨ n = 46 ∨ n = 47) ∨ n = 45 ∨ (48 ≤ n ∧ n ≤ 57) ∨ (58 ≤ n ∧ n ≤ 64) ∨ (65 ≤ n ∧ n ≤ 90) ∨ ((91 ≤ n ∧ n ≤ 94) ∨ n = 96) ∨ n = 95 ∨ (97 ≤ n ∧ n ≤ 122) ∨ 123 ≤ n := by omega
  clear hb hf
  rcases hn with h | h | h | h | h | h | h | h | h
  · exact .inl (by refine ⟨?_, ?_, ?_, ?_, ?_, ?_⟩ <;> omega)
  · exact .inr (.inl (by refine ⟨?_, ?_, ?_, ?_, ?_, ?_⟩ <;> omega))
  · exact .inr (.inr (.inl (by refine ⟨?_, ?_, ?_, ?_, ?_⟩ <;> omega)))
  · exact .inr (.inr (.inr (.inl (by refine ⟨?_, ?_, ?_, ?_, ?_, ?_, ?_⟩ <;> omega))))
  · exact .inr (.inr (.inr (.inr (.inl (by refine ⟨?_, ?_, ?_⟩ <;> omega)))))
  · exact .inr (.inr (.inr (.inr (.inr (.inl (by refine ⟨?_, ?_, ?_, ?_, ?_, ?_, ?_, ?_⟩ <;> omega))))))
  · exact .inr (.inr (.inr (.inr (.inr (.inr (.inl (by refine ⟨?_, ?_, ?_, ?_, ?_, ?_, ?_⟩ <;> omega)))))))
  · exact .inr (.inr (.inr (.inr (.inr (.inr (.inr (.inl (by refine ⟨?_, ?_, ?_, ?_, ?_⟩ <;> omega))))))))
  · exact .inr (.inr (.inr (.inr (.inr (.inr (.inr (.inr (by refine ⟨?_, ?_, ?_, ?_, ?_, ?_, ?_, ?_, ?_⟩ <;> omega))))))))

set_option maxRecDepth 100000 in
set_option maxHeartbeats 1600000 in
theorem bare_any (c : UInt8) (w : World) : Calls Tryz.prog 11 #[.int .u8 (c.toNat : Int)] w fun e w' => Yes (bareB c) w e w' := by
  have hC := bare_cases c
  generalize bareB c = b at *
  generalize (c.toNat : Int) = n at *
  rcases hC with ⟨rfl, h1, h2, h3, h4, h5⟩ | ⟨rfl, h1, h2, h3, h4, h5⟩ | ⟨rfl, h1, h2, h3, h4⟩ | ⟨rfl, h1, h2, h3, h4, h5, h6⟩ | ⟨rfl, h1, h2⟩ | ⟨rfl, h1, h2, h3, h4, h5, h6, h7⟩ | ⟨rfl, h1, h2, h3, h4, h5, h6⟩ | ⟨rfl, h1, h2, h3, h4⟩ | ⟨rfl, h1, h2, h3, h4, h5, h6, h7, h8⟩
  all_goals
    go_enter Tryz.func11, Tryz.ntmps11
    go_wp2
    go_ret
    exact ⟨rfl, rfl⟩

def ByteIs (c : UInt8) (w : World) (e : Ending) (w' : World) : Prop := e = .returned (.int .u8 (c.toNat : Int)) ∧ w' = w

set_option maxRecDepth 100000 in
set_option maxHeartbeats 800000 in
theorem hex_any (d : UInt8) (hd : d.toNat < 16) (w : World) : Calls Tryz.prog 12 #[.int .u8 (d.toNat : Int)] w fun e w' => ByteIs (hexD d) w e w' := by
  by_cases h : d.toNat < 10
  · have h1 : decide ((d.toNat : Int) < 10) = true := by simp; omega
    have h2 : IntKind.u8.wrap (48 + (d.toNat : Int)) = ((hexD d).toNat : Int) := by
      have : hexD d = 48 + d := by unfold hexD; rw [if_pos h]
      rw [IntKind.wrap_u8, this, UInt8.toNat_add]
      simp <;> omega
    go_enter Tryz.func12, Tryz.ntmps12
    go_wp2
    go_ret
    exact ⟨by first | rfl | rw [h2], rfl⟩
  · have h1 : decide ((d.toNat : Int) < 10) = false := by simp; omega
    have h0 : IntKind.u8.wrap (97 + (d.toNat : Int)) = 97 + (d.toNat : Int) := by rw [IntKind.wrap_u8]; omega
    have h2 : IntKind.u8.wrap (97 + (d.toNat : Int) - 10) = ((hexD d).toNat : Int) := by
      have : hexD d = 87 + d := by unfold hexD; rw [if_neg h]
      rw [IntKind.wrap_u8, this, UInt8.toNat_add]
      simp <;> omega
    go_enter Tryz.func12, Tryz.ntmps12
    go_wp2
    go_ret
    exact ⟨by first | rfl | rw [h2], rfl⟩
end Go.Proofs.Qxb6604678aGreatFmt
