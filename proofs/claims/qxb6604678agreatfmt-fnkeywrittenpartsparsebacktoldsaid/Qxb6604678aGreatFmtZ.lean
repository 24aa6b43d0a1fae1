import Derived.Test.Qxb6604678aGreatFmtY
namespace Go.Proofs.Qxb6604678aGreatFmt
open Go Go.RowKit Go.Extern.Stop Go.Stop Go.Extern

theorem below_but {n B : Nat} {a w w' : World} (h : Below n a w) (hg : w.grownBy w' (some B)) (hB : n ≤ B) (hn : n ≤ w.heap.size) : Below n a w' :=
  ⟨hg.os.trans h.os, hg.tape.trans h.tape, hg.output.trans h.output, Nat.le_trans h.size hg.size, fun k hk => (hg.block k (by omega) (by simp; omega)).trans (h.block k hk)⟩

/-- No key: the empty list of parts and an error. -/
def NoKey (n : Nat) (W0 : World) (e : Ending) (w' : World) : Prop := (∃ t v, e = .returned (.tuple #[.slice none 0 0, .iface t v])) ∧ Below n W0 w'

set_option maxRecDepth 100000 in
set_option maxHeartbeats 1600000 in
theorem key_none (F : Interp) (B : Nat) (doc : ByteArray) (W0 w : World) (hP : PS B doc 0 w) (hA : At doc 0 [32, 61, 32, 49]) (hE : Env F W0) (hB0 : Below W0.heap.size W0 w) (hB : W0.heap.size ≤ B) :
    Calls Tryz.prog 10 #[.pointer (some ⟨B, 0, none⟩)] w fun e w' => NoKey W0.heap.size W0 e w' := by
  have CS := skip_any B doc 0 [32] 61 [32, 49] w hP hA (by decide) (by decide)
  have hA1 : At doc 1 [61, 32, 49] := hA.next
  have HA1 : Hid (At doc 1 [61, 32, 49]) := hA1
  clear hA hA1
  go_enter Tryz.func10, Tryz.ntmps10
  go_wp2_with fail
  go_loopw [4] (fun _ wx => wx = w) (fun _ _ => 0)
  case atStart => rfl
  case round =>
    subst hrel
    go_wp2_with fail
    refine CS.mono ?_
    rintro e w1 ⟨⟨v1, rfl⟩, hP1, hG1⟩
    clear CS
    have hP1' : PS B doc 1 w1 := hP1
    have hB1 := below_but hB0 hG1 hB hB0.size
    have CK := keyPart_none F B doc 1 w1 hP1' HA1.out (hE.below hB1)
    go_wp2_with fail
    refine CK.mono ?_
    rintro e w2 ⟨⟨s, t, v, rfl⟩, hB2⟩
    clear CK
    go_wp2
    go_ret2
    exact ⟨⟨_, _, rfl⟩, hB1.trans (hB2.mono hB1.size)⟩

set_option maxRecDepth 100000 in
theorem zzkey_none (F : Interp) (B : Nat) (doc : ByteArray) (W0 w : World) (hP : PS B doc 0 w) (hA : At doc 0 [32, 61, 32, 49]) (hE : Env F W0) (hB0 : Below W0.heap.size W0 w) (hB : W0.heap.size ≤ B) :
    Calls Tryz.prog 7 #[.pointer (some ⟨B, 0, none⟩)] w fun e w' => NoKey W0.heap.size W0 e w' := by
  have CALL := key_none F B doc W0 w hP hA hE hB0 hB
  clear hA
  go_enter Tryz.func7, Tryz.ntmps7
  go_wp2_with fail
  refine CALL.mono ?_
  rintro e w2 ⟨⟨t, v, rfl⟩, hB2⟩
  clear CALL
  go_wp2
  go_ret2
  exact ⟨⟨_, _, rfl⟩, hB2⟩

set_option maxRecDepth 100000 in
theorem zzkey_some (B : Nat) (doc : ByteArray) (xs : List ByteArray) (w : World) (hP : PS B doc 0 w) (hA : At doc 0 (tailR xs 0)) (h0 : 0 < xs.length) (hn : xs.length ≤ 65536) :
    Calls Tryz.prog 7 #[.pointer (some ⟨B, 0, none⟩)] w fun e w' => Keys w.heap.size B doc xs w e w' := by
  have CALL := key_some B doc xs w hP hA h0 hn
  clear hA
  go_enter Tryz.func7, Tryz.ntmps7
  go_wp2_with fail
  refine CALL.mono ?_
  rintro e w2 ⟨v, rfl, h1, h2, h3⟩
  clear CALL
  go_wp2
  go_ret2
  exact ⟨v, rfl, h1, h2, h3⟩

set_option maxRecDepth 100000 in
theorem pos_any (B : Nat) (doc : ByteArray) (pos : Nat) (w : World) (hP : PS B doc pos w) : Calls Tryz.prog 8 #[.pointer (some ⟨B, 0, none⟩)] w fun e w' => e = .returned (.int .i64 (pos : Int)) ∧ w' = w := by
  have c2 := hP.p
  go_enter Tryz.func8, Tryz.ntmps8
  go_wp2
  go_ret
  exact ⟨rfl, rfl⟩

/-- A new parser in a new block. -/
def NewP (doc : ByteArray) (w : World) (e : Ending) (w' : World) : Prop := e = .returned (.pointer (some ⟨w.heap.size, 0, none⟩)) ∧ PS w.heap.size doc 0 w' ∧ Below w.heap.size w w'

set_option maxRecDepth 100000 in
set_option maxHeartbeats 800000 in
theorem newParser_any (doc : ByteArray) (hs : doc.size ≤ 1073741824) (w : World) : Calls Tryz.prog 6 #[.string doc, .int .i64 0, .int .i64 1] w fun e w' => NewP doc w e w' := by
  go_enter Tryz.func6, Tryz.ntmps6
  go_wp2
  go_ret
  have hg := World.grownBy_alloc w (.cells #[.string doc, .int .i64 0, .int .i64 1] 35) none
  have hb : (w.alloc (.cells #[.string doc, .int .i64 0, .int .i64 1] 35)).heap[w.heap.size]? = some (.cells #[.string doc, .int .i64 0, .int .i64 1] 35 (0, 0)) := heap_new_at rfl
  refine ⟨rfl, ⟨?_, ?_, ?_, ?_, ?_, hs, Nat.zero_le _⟩, (Below.refl _ w).alloc (Nat.le_refl _) _⟩
  · rw [cell_of_row _ _ 0 _ _ _ hb]; rfl
  · rw [cell_of_row _ _ 1 _ _ _ hb]; rfl
  · rw [cell_of_row _ _ 2 _ _ _ hb]; rfl
  · unfold World.frozen?
    rw [hb]
    rfl
  · simp

/-- It answers a bool; where it answers yes, every string is small. -/
def SomeBool (xs : List ByteArray) (e : Ending) : Prop := ∃ b, e = .returned (.bool b) ∧ (b = true → ∀ k (h : k < xs.length), xs[k].size ≤ 1048576)
theorem someBool_no (xs : List ByteArray) : SomeBool xs (.returned (.bool false)) := ⟨false, rfl, fun h => by cases h⟩

set_option maxRecDepth 100000 in
set_option maxHeartbeats 1600000 in
theorem zzBytes_any (xs : List ByteArray) (v1 : Value) (w : World) (h1 : VS w v1 xs) : Calls Tryz.prog 4 #[v1] w fun e w' => SomeBool xs e ∧ w' = w := by
  obtain ⟨ao, cap, rfl, hc⟩ := h1
  have HX : Hid (∀ k (h : k < xs.length), ∃ b off, ao = some ⟨b, off, none⟩ ∧ b < w.heap.size ∧ w.cell? ⟨b, off + k, none⟩ = some (.string xs[k])) := hc
  clear hc
  by_cases hlx : xs.length ≤ 1048576
  · go_enter Tryz.func4, Tryz.ntmps4
    go_wp2
    go_loop [3, 4] (fun nv iv => ∃ k n : Nat, k ≤ xs.length ∧ iv = .int .i64 k ∧ nv = .int .i64 n ∧ n ≤ 1048576 ∧ Hid (∀ j (h : j < xs.length), j < k → xs[j].size ≤ 1048576)) (fun _ iv => xs.length - (intOf iv).toNat)
    case atStart => exact ⟨0, xs.length, Nat.zero_le _, rfl, rfl, hlx, fun j h hj => absurd hj (by omega)⟩
    case round =>
      obtain ⟨k, n, hk, rfl, rfl, hn, HK⟩ := hrel
      by_cases hlt : k < xs.length
      · obtain ⟨b, off, rfl, hbl, hcell⟩ := HX.out k hlt
        go_wp2
        all_goals first
          | (go_ret
             exact ⟨someBool_no xs, rfl⟩)
          | (go_round
             case rel => exact ⟨k + 1, n + xs[k].size, by omega, by go_num, by go_num, by omega, fun j h hj => by
               by_cases e : j = k
               · subst e; omega
               · exact HK.out j h (by omega)⟩
             case measure => simp [intOf]; omega)
      · have HK' : Hid (∀ j (h : j < xs.length), xs[j].size ≤ 1048576) := fun j h => HK.out j h (by omega)
        go_wp2
        all_goals
          go_ret
          exact ⟨⟨_, rfl, fun _ => HK'.out⟩, rfl⟩
  · go_enter Tryz.func4, Tryz.ntmps4
    go_wp2
    go_ret
    exact ⟨someBool_no xs, rfl⟩
end Go.Proofs.Qxb6604678aGreatFmt
