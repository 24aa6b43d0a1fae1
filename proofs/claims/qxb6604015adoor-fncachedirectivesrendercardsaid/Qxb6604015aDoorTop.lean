import Derived.Test.Qxb6604015aDoorZz
import Derived.Test.Qxb6604015aDoorSame
namespace Go.Proofs.Qxb6604015aDoor
open Go.RowKit

theorem nv_sv (ds : List (Bs × Bs)) : nv ds = sv (ds.map (·.1)) := by simp [nv, sv]
theorem av_sv (ds : List (Bs × Bs)) : av ds = sv (ds.map (·.2)) := by simp [av, sv]

theorem same_rows (xs : List Bs) (n : Nat) (hn : n = xs.length) (b1 b2 : Nat) (v1 v2 : Value) (w : World) (h1 : w.ownsRow b1 9 1 v1 n (sv xs)) (h2 : w.ownsRow b2 9 1 v2 n (sv xs))
    (hz : xs = [] → v1 = .slice none 0 0 ∧ v2 = .slice none 0 0) :
    Calls Tryd.prog 8 #[v1, v2] w fun e w' => e = .returned (.bool true) ∧ ∃ n, w' = w.drewN n := by
  subst hn
  exact same_any xs b1 b2 v1 v2 w h1 h2 hz

theorem same_nil (w : World) : Calls Tryd.prog 8 #[.slice none 0 0, .slice none 0 0] w fun e w' => e = .returned (.bool true) ∧ ∃ n, w' = w.drewN n :=
  same_any [] 0 0 _ _ w (World.ownsRow_nil _ _ _ _) (World.ownsRow_nil _ _ _ _) fun _ => ⟨rfl, rfl⟩

theorem same_names {B1 B2 : Nat} {w0 w1 w2 W : World} {vn va vn' va' : Value} {ds : List (Bs × Bs)} (h1 : TwoRows B1 w0 w1 vn va ds) (h2 : TwoRows B2 w1 w2 vn' va' ds) (hB : w1.heap.size ≤ B2) (n : Nat) (hW : W = w2.drewN n) :
    Calls Tryd.prog 8 #[vn, vn'] W fun e w' => e = .returned (.bool true) ∧ ∃ n, w' = W.drewN n := by
  subst hW
  have a1 := own_below h1.names h2.below hB
  have a2 := h2.names
  rw [nv_sv] at a1 a2
  exact same_rows _ _ (by simp) _ _ _ _ _ a1 a2 fun e => by
    have e' : ds = [] := by simpa using e
    exact ⟨(h1.nils e').1, (h2.nils e').1⟩
theorem same_args {B1 B2 : Nat} {w0 w1 w2 W : World} {vn va vn' va' : Value} {ds : List (Bs × Bs)} (h1 : TwoRows B1 w0 w1 vn va ds) (h2 : TwoRows B2 w1 w2 vn' va' ds) (hB : w1.heap.size ≤ B2) (n : Nat) (hW : W = w2.drewN n) :
    Calls Tryd.prog 8 #[va, va'] W fun e w' => e = .returned (.bool true) ∧ ∃ n, w' = W.drewN n := by
  subst hW
  have a1 := own_below h1.args h2.below hB
  have a2 := h2.args
  rw [av_sv] at a1 a2
  exact same_rows _ _ (by simp) _ _ _ _ _ a1 a2 fun e => by
    have e' : ds = [] := by simpa using e
    exact ⟨(h1.nils e').2, (h2.nils e').2⟩

set_option maxRecDepth 100000 in
set_option maxHeartbeats 800000 in
theorem small_yes (s : ByteArray) (h : s.size ≤ 1048576) (w : World) : Calls Tryd.prog 5 #[.string s] w fun e w' => e = .returned (.bool true) ∧ w' = w := by
  go_enter Tryd.func5, Tryd.ntmps5
  go_wp2
  go_ret
  exact ⟨rfl, rfl⟩
set_option maxRecDepth 100000 in
set_option maxHeartbeats 800000 in
theorem small_no (s : ByteArray) (h : ¬ s.size ≤ 1048576) (w : World) : Calls Tryd.prog 5 #[.string s] w fun e w' => e = .returned (.bool false) ∧ w' = w := by
  go_enter Tryd.func5, Tryd.ntmps5
  go_wp2
  go_ret
  exact ⟨rfl, rfl⟩

set_option maxRecDepth 100000 in
set_option maxHeartbeats 800000 in
/-- THE LAW, walked: it answers true, and nothing old has turned. -/
theorem spec_any (s : ByteArray) (w : World) : Calls Tryd.prog 3 #[.string s] w fun e w' => e = .returned (.bool true) ∧ Below w.heap.size w w' := by
  by_cases h : s.size ≤ 1048576
  · go_enter Tryd.func3, Tryd.ntmps3
    go_wp2_with fail
    refine (small_yes s h w).mono ?_
    rintro e w' ⟨rfl, rfl⟩
    go_wp2_with fail
    refine (zz_any s (by omega) _).mono ?_
    rintro e w1 (⟨ho, rfl, hnx⟩ | ⟨ds, vn, va, ho, rfl, hT⟩)
    · have HO : Hid (SA s.data.toList = none) := ho
      clear ho
      go_wp2_with fail
      refine (model_any s (by omega) _).mono ?_
      rintro e w2 (⟨ho2, rfl, hnx2⟩ | ⟨ds', vn', va', ho2, rfl, hT2⟩)
      · clear ho2
        go_wp2_with (go_at_call 8; refine (same_nil _).mono ?_; rintro e w3 ⟨rfl, n, rfl⟩)
        go_ret
        exact ⟨rfl, below_draws (hnx.trans (hnx2.mono hnx.size)) _⟩
      · rw [HO.out] at ho2
        cases ho2
    · have HO : Hid (SA s.data.toList = some ds) := ho
      clear ho
      go_wp2_with fail
      refine (model_any s (by omega) _).mono ?_
      rintro e w2 (⟨ho2, rfl, hnx2⟩ | ⟨ds', vn', va', ho2, rfl, hT2⟩)
      · rw [HO.out] at ho2
        cases ho2
      · rw [HO.out] at ho2
        cases ho2
        have hnx3 := hT.below.trans (hT2.below.mono hT.below.size)
        go_wp2_with fail
        refine (same_names hT hT2 (Nat.le_refl _) 0 rfl).mono ?_
        rintro e w3 ⟨rfl, n, rfl⟩
        go_wp2_with fail
        refine (same_args hT hT2 (Nat.le_refl _) n rfl).mono ?_
        rintro e w3 ⟨rfl, m, rfl⟩
        go_wp2
        go_ret
        exact ⟨rfl, below_draws hnx3 _⟩
  · go_enter Tryd.func3, Tryd.ntmps3
    go_wp2_with fail
    refine (small_no s h w).mono ?_
    rintro e w' ⟨rfl, rfl⟩
    go_wp2
    go_ret
    exact ⟨rfl, Below.refl _ _⟩

end Go.Proofs.Qxb6604015aDoor
