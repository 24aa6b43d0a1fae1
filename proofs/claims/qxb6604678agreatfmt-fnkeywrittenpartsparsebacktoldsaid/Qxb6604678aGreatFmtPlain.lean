import Derived.Lib.Strings
namespace Go.Proofs.Qxb6604678aGreatFmt

abbrev Bs := List UInt8

/-- A byte of a bare key. -/
def bareB (c : UInt8) : Bool :=
  (decide (65 ≤ c.toNat) && decide (c.toNat ≤ 90)) || (decide (97 ≤ c.toNat) && decide (c.toNat ≤ 122)) || (decide (48 ≤ c.toNat) && decide (c.toNat ≤ 57)) || decide (c.toNat = 95) || decide (c.toNat = 45)
def hexD (d : UInt8) : UInt8 := if d.toNat < 10 then 48 + d else 87 + d
/-- A byte that is written as an escape of two digits. -/
def ctl (c : UInt8) : Bool := (decide (c.toNat < 32) && c != 9) || c == 127
def encB (c : UInt8) : Bs := if c = 34 ∨ c = 92 then [92, c] else if ctl c then [92, 120, hexD (c >>> 4), hexD (c &&& 15)] else [c]
def encS : Bs → Bs
  | [] => []
  | c :: t => encB c ++ encS t
theorem encS_append : ∀ a b, encS (a ++ b) = encS a ++ encS b
  | [], _ => rfl
  | c :: a, b => by simp [encS, encS_append a b]
/-- A part, as it is written. -/
def wpart (p : Bs) : Bs := if p ≠ [] ∧ p.all bareB = true then p else 34 :: (encS p ++ [34])
/-- What stands ahead of the i-th part. -/
def sep (i : Nat) : Bs := if i = 0 then [] else if i % 2 = 1 then [46] else [32, 9, 46, 32]
def wfrom : Nat → List Bs → Bs
  | _, [] => [32, 61, 32, 49]
  | i, p :: r => sep i ++ wpart p ++ wfrom (i + 1) r

end Go.Proofs.Qxb6604678aGreatFmt
