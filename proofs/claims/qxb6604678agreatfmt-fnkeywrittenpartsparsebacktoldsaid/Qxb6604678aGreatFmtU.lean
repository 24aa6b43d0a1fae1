import Derived.Test.Qxb6604678aGreatFmtK
import Derived.Lib.ConvBytes
namespace Go.Proofs.Qxb6604678aGreatFmt
open Go Go.RowKit

/-- A hexadecimal digit as the writer writes it; what it stands for. -/
def isHx (c : UInt8) : Prop := (48 ≤ c.toNat ∧ c.toNat ≤ 57) ∨ (97 ≤ c.toNat ∧ c.toNat ≤ 102)
def hv (c : UInt8) : Nat := if c.toNat ≤ 57 then c.toNat - 48 else c.toNat - 87
theorem hexD_is (d : UInt8) (h : d.toNat < 16) : isHx (hexD d) ∧ hv (hexD d) = d.toNat := by
  have key : ∀ k : Fin 16, isHx (hexD (UInt8.ofNat k.val)) ∧ hv (hexD (UInt8.ofNat k.val)) = (UInt8.ofNat k.val).toNat := by unfold isHx; decide
  have := key ⟨d.toNat, h⟩
  simpa using this
theorem hv_lt {c : UInt8} (h : isHx c) : hv c < 16 := by
  unfold isHx at h
  unfold hv
  split <;> omega

theorem or32 (c : UInt8) (h : 97 ≤ c.toNat ∧ c.toNat ≤ 102) : bits .or .u8 (c.toNat : Int) 32 = (c.toNat : Int) := by
  have key : ∀ k : Fin 6, bits .or .u8 ((97 + k.val : Nat) : Int) 32 = ((97 + k.val : Nat) : Int) := by decide
  have := key ⟨c.toNat - 97, by omega⟩
  rwa [show 97 + (c.toNat - 97) = c.toNat from by omega] at this

set_option maxRecDepth 100000 in
theorem lower_any (c : UInt8) (h : 97 ≤ c.toNat ∧ c.toNat ≤ 102) (w : World) : Calls Tryz.prog 75 #[.int .u8 (c.toNat : Int)] w fun e w' => ByteIs c w e w' := by
  have h2 := or32 c h
  go_enter Tryz.func75, Tryz.ntmps75
  go_wp2
  go_ret
  exact ⟨by first | rfl | rw [h2], rfl⟩

def PuSays (n : Nat) (w : World) (e : Ending) (w' : World) : Prop := e = .returned (.tuple #[.int .u64 (n : Int), .nilIface]) ∧ Below w.heap.size w w'

/-- What the first k digits stand for. -/
def vk (a b : UInt8) : Nat → Nat
  | 0 => 0
  | 1 => hv a
  | _ => 16 * hv a + hv b

set_option maxRecDepth 100000 in
set_option maxHeartbeats 3200000 in
theorem pu_any (a b : UInt8) (ha : isHx a) (hb : isHx b) (w : World) : Calls Tryz.prog 65 #[.string ⟨#[a, b]⟩, .int .i64 16, .int .i64 32] w fun e w' => PuSays (16 * hv a + hv b) w e w' := by
  have hcv := Lib.run_convert_string_bytes (P := Tryz.prog) w 9 32 5 ⟨#[a, b]⟩ (u := .string) Tryz.underlying9 Tryz.underlying32 Tryz.underlying5
  have hc0 := Lib.bytesWorld_cell w 5 ⟨#[a, b]⟩ 0 (by show 0 < 2; omega)
  have hc1 := Lib.bytesWorld_cell w 5 ⟨#[a, b]⟩ 1 (by show 1 < 2; omega)
  have hBw : Below w.heap.size w (Lib.bytesWorld w 5 ⟨#[a, b]⟩) := ⟨rfl, rfl, rfl, by rw [Lib.bytesWorld_size]; omega, fun k hk => Lib.bytesWorld_at_old w 5 _ k hk⟩
  generalize Lib.bytesWorld w 5 ⟨#[a, b]⟩ = W1 at *
  have HS : Hid (∀ k, k < 2 → ∃ c : UInt8, isHx c ∧ W1.cell? ⟨w.heap.size, k, none⟩ = some (.int .u8 (c.toNat : Int)) ∧ vk a b (k + 1) = 16 * vk a b k + hv c ∧ vk a b k < 16) := by
    intro k hk
    match k, hk with
    | 0, _ => exact ⟨a, ha, hc0, by simp [vk], by simp [vk]⟩
    | 1, _ => exact ⟨b, hb, hc1, by simp [vk], by simpa [vk] using hv_lt ha⟩
  clear hc0 hc1
  generalize grownCap w (ByteArray.size ⟨#[a, b]⟩) 0 5 = cp at *
  have h2s : (ByteArray.mk #[a, b]).size = 2 := rfl
  rw [h2s] at hcv
  clear h2s
  go_enter Tryz.func65, Tryz.ntmps65
  go_wp2_with fail
  go_loopw [12, 13, 101] (fun vu vn vi wr => ∃ (k : Nat) (m : Int), vu = .bool false ∧ vn = .int .u64 m ∧ vi = .int .i64 k ∧ k ≤ 2 ∧ Hid (m = (vk a b k : Nat)) ∧ wr = W1) (fun _ _ vi _ => 2 - (intOf vi).toNat)
  case atStart => exact ⟨0, 0, rfl, rfl, rfl, by omega, rfl, rfl⟩
  case round =>
    obtain ⟨k, m, rfl, rfl, rfl, hk, HM, rfl⟩ := hrel
    by_cases hlt : k < 2
    · obtain ⟨c, hx, hcell, hvk, hm16⟩ := HS.out k hlt
      have hmm := HM.out
      have m0 : 0 ≤ m := by omega
      have m1 : m < 16 := by omega
      have h95 : ((c.toNat : Int) == 95) = false := beq_eq_false_iff_ne.2 (by unfold isHx at hx; omega)
      by_cases hd : c.toNat ≤ 57
      · have hd0 : (48 : Int) ≤ (c.toNat : Int) := by unfold isHx at hx; omega
        have hd1 : (c.toNat : Int) ≤ 57 := by omega
        have HN : Hid (m * 16 + ((c.toNat : Int) - 48) = (vk a b (k + 1) : Nat)) := by
          show _ = _
          rw [hvk, show hv c = c.toNat - 48 from by unfold hv; rw [if_pos hd]]
          omega
        clear hx hvk hm16 hmm HM hd
        go_wp2_with fail
        exact ⟨⟨k + 1, _, rfl, rfl, by go_num, by omega, HN, trivial⟩, by simp [intOf]; omega⟩
      · have hx2 : 97 ≤ c.toNat ∧ c.toNat ≤ 102 := by unfold isHx at hx; omega
        have hd0 : (97 : Int) ≤ (c.toNat : Int) := by omega
        have hd1 : (c.toNat : Int) ≤ 102 := by omega
        have hd2 : decide ((c.toNat : Int) ≤ 57) = false := by simp; omega
        have HN : Hid (m * 16 + ((c.toNat : Int) - 97 + 10) = (vk a b (k + 1) : Nat)) := by
          show _ = _
          rw [hvk, show hv c = c.toNat - 87 from by unfold hv; rw [if_neg hd]]
          omega
        have CALL := fun w => lower_any c hx2 w
        clear hx hvk hm16 hmm HM hd hx2
        go_wp2_with fail
        refine (CALL _).mono ?_
        rintro e w1 ⟨rfl, rfl⟩
        go_wp2_with fail
        refine (CALL _).mono ?_
        rintro e w1 ⟨rfl, rfl⟩
        go_wp2_with fail
        refine (CALL _).mono ?_
        rintro e w1 ⟨rfl, rfl⟩
        go_wp2_with fail
        exact ⟨⟨k + 1, _, rfl, rfl, by go_num, by omega, HN, trivial⟩, by simp [intOf]; omega⟩
    · obtain rfl : k = 2 := by omega
      have HN : Hid (m = ((16 * hv a + hv b : Nat) : Int)) := HM.out
      clear HM
      go_wp2
      go_ret2
      exact ⟨by rw [HN.out]; rfl, hBw⟩
end Go.Proofs.Qxb6604678aGreatFmt
