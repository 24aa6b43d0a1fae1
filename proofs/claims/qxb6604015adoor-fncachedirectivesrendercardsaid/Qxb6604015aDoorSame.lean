import Derived.Test.Qxb6604015aDoorRows
import Derived.Test.Qxb6604015aDoorPlain2
import Derived.Test.Qxb6604015aDoorLaws2
import Derived.Lib.SliceRun
import Derived.Deep.QuietTactic
import Derived.BigQuiet
namespace Go.Proofs.Qxb6604015aDoor
open Go.RowKit

/-- The cells of some strings. -/
def sv (xs : List Bs) : List Value := xs.map fun x => Value.string ⟨x.toArray⟩

theorem scell {w : World} {B g cap : Nat} {xs : List Bs} (h : w.ownsRow B 9 1 (.slice (some ⟨g, 0, none⟩) xs.length cap) xs.length (sv xs)) (k : Nat) (hk : k < xs.length) : w.cell? ⟨g, k, none⟩ = some (.string ⟨(xs[k]).toArray⟩) := by
  rw [h.cellAt k (by omega)]
  simp [sv, hk]

theorem own_len {w : World} {base e size : Nat} {v : Value} {n : Nat} {xs : List Value} (h : w.ownsRow base e size v n xs) : n ≤ 9223372036854775807 := by
  rcases h.2 with ⟨_, h0⟩ | ⟨_, _, _, _, _, _, h1, h2, _⟩
  · omega
  · unfold maxLen at h2
    omega

set_option maxRecDepth 100000 in
set_option maxHeartbeats 800000 in
/-- Two equal rows of strings, nil or not together: the same. -/
theorem same_any (xs : List Bs) (b1 b2 : Nat) (v1 v2 : Value) (w : World) (h1 : w.ownsRow b1 9 1 v1 xs.length (sv xs)) (h2 : w.ownsRow b2 9 1 v2 xs.length (sv xs))
    (hn : xs = [] → v1 = .slice none 0 0 ∧ v2 = .slice none 0 0) :
    Calls Tryd.prog 8 #[v1, v2] w fun e w' => e = .returned (.bool true) ∧ ∃ n, w' = w.drewN n := by
  have hnq := fun (W : World) (a : Option Addr) (l c : Nat) => Lib.run_eql_slice_nil (P := Tryd.prog) W 23 9 a l c 0 0 Tryd.underlying23
  by_cases hx : xs = []
  · obtain ⟨rfl, rfl⟩ := hn hx
    clear hn
    subst hx
    go_enter Tryd.func8, Tryd.ntmps8
    go_wp2
    go_loop [5] (fun i => i = .int .i64 0) (fun _ => 0)
    case atStart => rfl
    case round =>
      subst hrel
      go_wp2
      go_ret
      exact ⟨rfl, 0, rfl⟩
  · have hpos : 0 < xs.length := List.length_pos_iff.2 hx
    obtain ⟨g, cap, rfl⟩ : ∃ g cap, v1 = .slice (some ⟨g, 0, none⟩) xs.length cap := by
      rcases h1.2 with ⟨_, hz⟩ | ⟨g, cap, _, rfl, _, _⟩
      · omega
      · exact ⟨_, _, rfl⟩
    obtain ⟨g', cap', rfl⟩ : ∃ g cap, v2 = .slice (some ⟨g, 0, none⟩) xs.length cap := by
      rcases h2.2 with ⟨_, hz⟩ | ⟨g, cap, _, rfl, _, _⟩
      · omega
      · exact ⟨_, _, rfl⟩
    have hl : xs.length ≤ 9223372036854775807 := own_len h1
    clear hn hx
    go_enter Tryd.func8, Tryd.ntmps8
    go_wp2
    go_loopw [5] (fun i wr => ∃ (k n : Nat), k ≤ xs.length ∧ i = .int .i64 k ∧ wr = w.drewN n) (fun i _ => xs.length - (intOf i).toNat)
    case atStart => exact ⟨0, 0, Nat.zero_le _, rfl, rfl⟩
    case round =>
      obtain ⟨k, n, hk, rfl, rfl⟩ := hrel
      by_cases hlt : k < xs.length
      · have c1 := scell h1 k hlt
        have c2 := scell h2 k hlt
        have hi : (k : Int) < (xs.length : Int) := by omega
        clear hnq
        go_wp2
        go_quiet (fail)
        go_wp2
        go_roundw
        case rel => exact ⟨k + 1, _, by omega, by go_num, rfl⟩
        case measure => simp [intOf]; omega
      · go_wp2
        go_ret
        exact ⟨rfl, n, rfl⟩

end Go.Proofs.Qxb6604015aDoor
