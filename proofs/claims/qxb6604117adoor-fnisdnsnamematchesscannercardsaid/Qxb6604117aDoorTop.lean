import Derived.Test.Qxb6604117aDoorScan
namespace Go.Proofs.Qxb6604117aDoor
open Go.RowKit

theorem dns_any (s : ByteArray) (b : Bool) (w : World) : Calls Tryd.prog 7 #[.string s, .bool b] w fun e w' => DnsSays b s.data.toList w e w' :=
  (callsIn_wide (n := 4)).1 (dns_in 4 s b w)

set_option maxRecDepth 100000 in
theorem zzdns_any (s : ByteArray) (b : Bool) (w : World) : Calls Tryd.prog 5 #[.string s, .bool b] w fun e w' => DnsSays b s.data.toList w e w' := by
  go_enter Tryd.func5, Tryd.ntmps5
  go_wp2_with fail
  refine (dns_any s b w).mono ?_
  rintro e w' ⟨rfl, h⟩
  go_wp2
  go_ret
  exact ⟨rfl, h⟩

def Small (s : ByteArray) : Bool := decide (s.size ≤ 1048576)

set_option maxRecDepth 100000 in
theorem zz_any (s : ByteArray) (b : Bool) (w : World) : Calls Tryd.prog 4 #[.string s, .bool b] w fun e w' => e = .returned (.bool (Small s)) ∧ w' = w := by
  by_cases h : s.size ≤ 1048576
  · have hs : Small s = true := decide_eq_true h
    rw [hs]
    go_enter Tryd.func4, Tryd.ntmps4
    go_wp2
    all_goals go_ret
    all_goals exact ⟨rfl, rfl⟩
  · have hs : Small s = false := decide_eq_false h
    rw [hs]
    go_enter Tryd.func4, Tryd.ntmps4
    go_wp2
    all_goals go_ret
    all_goals exact ⟨rfl, rfl⟩

set_option maxRecDepth 100000 in
theorem law_any (s : ByteArray) (b : Bool) (w : World) : Calls Tryd.prog 3 #[.string s, .bool b] w fun e w' => e = .returned (.bool true) ∧ Below w.heap.size w w' := by
  by_cases h : s.size ≤ 1048576
  · have hs : Small s = true := decide_eq_true h
    go_enter Tryd.func3, Tryd.ntmps3
    go_wp2_with fail
    refine (zz_any s b w).mono ?_
    rintro e w' ⟨he, rfl⟩
    rw [hs] at he
    subst he
    go_wp2_with fail
    refine (zzdns_any s b w').mono ?_
    rintro e w1 ⟨rfl, hB⟩
    go_wp2_with fail
    refine (scan_any s b h w1).mono ?_
    rintro e w2 ⟨rfl, rfl⟩
    generalize dnsOk b s.data.toList = r
    go_wp2
    go_ret
    exact ⟨rfl, hB⟩
  · have hs : Small s = false := decide_eq_false h
    go_enter Tryd.func3, Tryd.ntmps3
    go_wp2_with fail
    refine (zz_any s b w).mono ?_
    rintro e w' ⟨he, rfl⟩
    rw [hs] at he
    subst he
    go_wp2
    go_ret
    exact ⟨rfl, Below.refl _ _⟩
end Go.Proofs.Qxb6604117aDoor
