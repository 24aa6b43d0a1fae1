import Derived.Test.Qxb6604015aDoorRows
import Derived.Test.Qxb6604015aDoorPlain2
import Derived.Test.Qxb6604015aDoorLaws
import Derived.Laws.IdiomStrings
namespace Go.Proofs.Qxb6604015aDoor
open Go.RowKit

/-- A row of bytes that a conversion has made, k of them lowered. -/
def LowAt (w : World) (B : Nat) (s : ByteArray) (k : Nat) : Prop :=
  ∃ cur : Array Value, w.heap[B]? = some (.cells cur 5 (cur.size, cur.size + 1)) ∧ s.size ≤ cur.size ∧
    ∀ j (hj : j < s.size), cur[j]? = some (.int .u8 ((if j < k then lowB s[j] else s[j]).toNat : Int))

theorem LowAt.cell {w : World} {B : Nat} {s : ByteArray} {k : Nat} (h : LowAt w B s k) (j : Nat) (hj : j < s.size) : w.cell? ⟨B, j, none⟩ = some (.int .u8 ((if j < k then lowB s[j] else s[j]).toNat : Int)) := by
  obtain ⟨cur, hb, _, hc⟩ := h
  rw [cell_of_row w B j cur 5 _ hb]
  exact hc j hj
theorem LowAt.free {w : World} {B : Nat} {s : ByteArray} {k : Nat} (h : LowAt w B s k) (j : Nat) (hj : j < s.size) : w.frozen? ⟨B, j, none⟩ = false := by
  obtain ⟨cur, hb, hsz, hc⟩ := h
  simp [World.frozen?, hb]
  omega

theorem heap_setCell_mark (w : World) (g i : Nat) (cs : Array Value) (t : TypeId) (fr : Nat × Nat) (v : Value) (hg : w.heap[g]? = some (.cells cs t fr)) :
    (w.setCell ⟨g, i, none⟩ v).heap[g]? = some (.cells (cs.setIfInBounds i v) t fr) := by
  rw [setCell_eq_setRow w g i cs t fr v hg]
  exact setRow_heap w g cs _ t _ hg

theorem low_yes (b : UInt8) (h1 : 65 ≤ (b.toNat : Int)) (h2 : (b.toNat : Int) ≤ 90) : (b.toNat : Int) + 32 = ((lowB b).toNat : Int) := by
  have h : 65 ≤ b ∧ b ≤ 90 := ⟨UInt8.le_iff_toNat_le.2 (by simpa using Int.ofNat_le.1 h1), UInt8.le_iff_toNat_le.2 (by simpa using Int.ofNat_le.1 h2)⟩
  unfold lowB
  rw [if_pos h, UInt8.toNat_add]
  simp
  omega
theorem low_no (b : UInt8) (h : ¬ (65 ≤ (b.toNat : Int) ∧ (b.toNat : Int) ≤ 90)) : lowB b = b := by
  unfold lowB
  rw [if_neg]
  rintro ⟨h1, h2⟩
  have a := UInt8.le_iff_toNat_le.1 h1
  have c := UInt8.le_iff_toNat_le.1 h2
  simp at a c
  omega

theorem LowAt.store {w : World} {B : Nat} {s : ByteArray} {k : Nat} (h : LowAt w B s k) (hk : k < s.size) {n : Int} (hn : n = ((lowB s[k]).toNat : Int)) : LowAt (w.setCell ⟨B, k, none⟩ (.int .u8 n)) B s (k + 1) := by
  obtain ⟨cur, hb, hsz, hc⟩ := h
  refine ⟨cur.setIfInBounds k (.int .u8 n), by have := heap_setCell_mark w B k cur 5 _ (.int .u8 n) hb; simpa using this, by simpa using hsz, ?_⟩
  intro j hj
  by_cases e : k = j
  · subst e
    rw [Array.getElem?_setIfInBounds_self_of_lt (by omega), hn]
    simp
  · rw [Array.getElem?_setIfInBounds_ne e, hc j hj]
    by_cases h1 : j < k
    · rw [if_pos h1, if_pos (by omega)]
    · rw [if_neg h1, if_neg (by omega)]
theorem LowAt.skip {w : World} {B : Nat} {s : ByteArray} {k : Nat} (h : LowAt w B s k) (hk : k < s.size) (hn : lowB s[k] = s[k]) : LowAt w B s (k + 1) := by
  obtain ⟨cur, hb, hsz, hc⟩ := h
  refine ⟨cur, hb, hsz, ?_⟩
  intro j hj
  rw [hc j hj]
  by_cases e : j = k
  · subst e
    rw [if_neg (by omega), if_pos (by omega), hn]
  · by_cases h1 : j < k
    · rw [if_pos h1, if_pos (by omega)]
    · rw [if_neg h1, if_neg (by omega)]
theorem LowAt.start (w : World) (s : ByteArray) (c : Nat) : LowAt (w.alloc (.cells (bytesRow s c) 5 ((bytesRow s c).size, (bytesRow s c).size + 1))).drew w.heap.size s 0 := by
  refine ⟨bytesRow s c, heap_alloc_new w _, by simp [bytesRow], ?_⟩
  intro j hj
  rw [bytesRow_at s c j (by simpa using hj)]
  rfl
theorem LowAt.done {w : World} {B : Nat} {s : ByteArray} (h : LowAt w B s s.size) (cap : Nat) : (convert 32 9 (.slice (some ⟨B, 0, none⟩) s.size cap)).run Tryd.prog w = .ok (.string ⟨(low s.data.toList).toArray⟩) w := by
  have hl : (low s.data.toList).length = s.size := by simp [low]
  have := run_convert_bytes_back (P := Tryd.prog) w 32 9 5 ⟨B, 0, none⟩ cap (low s.data.toList) Tryd.underlying32 Tryd.underlying5 Tryd.underlying9 (fun j hj => by
    have hj' : j < s.size := by omega
    have hc := h.cell j hj'
    have ha : (⟨B, 0, none⟩ : Addr).add j = ⟨B, j, none⟩ := by unfold Addr.add; split <;> simp_all
    rw [ha, hc, if_pos hj']
    have : (low s.data.toList)[j] = lowB s[j] := by
      simp only [low, List.getElem_map]
      rfl
    rw [this])
  rwa [hl] at this

set_option maxRecDepth 100000 in
set_option maxHeartbeats 800000 in
theorem lower_any (s : ByteArray) (hs : s.size ≤ 1073741824) (w : World) :
    Calls Tryd.prog 15 #[.string s] w fun e w' => e = .returned (.string ⟨(low s.data.toList).toArray⟩) ∧ Below w.heap.size w w' := by
  have hcv := fun w => run_bytes_of_string (P := Tryd.prog) w 9 32 5 s Tryd.underlying9 Tryd.underlying32 Tryd.underlying5
  go_enter Tryd.func15, Tryd.ntmps15
  go_wp2
  go_loopw [4] (fun i wr => ∃ k : Nat, k ≤ s.size ∧ i = .int .i64 k ∧ Hid (LowAt wr w.heap.size s k) ∧ Below w.heap.size w wr) (fun i _ => s.size - (intOf i).toNat)
  case atStart => exact ⟨0, Nat.zero_le _, rfl, LowAt.start w s _, ((Below.refl _ _).alloc (Nat.le_refl _) _).drew⟩
  case round =>
    obtain ⟨k, hk, rfl, HL, hnx⟩ := hrel
    by_cases hlt : k < s.size
    · have hc : wr.cell? ⟨w.heap.size, k, none⟩ = some (.int .u8 (s[k].toNat : Int)) := by have := HL.out.cell k hlt; simpa using this
      have hf := HL.out.free k hlt
      go_wp2
      all_goals
        go_roundw
        case rel =>
          refine ⟨k + 1, by omega, by go_num, ?_, ?_⟩
          · first
              | exact HL.out.store hlt (low_yes _ (by assumption) (by assumption))
              | exact HL.out.skip hlt (low_no _ (by omega))
          · first
              | exact hnx
              | exact hnx.setCell (Nat.le_refl _) _
        case measure => simp [intOf]; omega
    · have e : k = s.size := by omega
      subst e
      have hcd := HL.out.done (grownCap w s.size 0 5)
      clear hcv
      go_wp2
      go_ret
      exact ⟨rfl, hnx⟩

end Go.Proofs.Qxb6604015aDoor
