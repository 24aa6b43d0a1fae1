/-
  DERIVED. GIVEN WITH THE SEED: THE CARDS: each row of Qxb6604117aDoorRows.lean that lists a variable, with what it lists TIED to the program's text (the seventh form; the later family's looks); each row that meets fmt, with fmt's text TOLD by the authors' own Lean function (tested against real Go, not proved from fmt's source: count such statements apart). THE CARD IS WHAT COUNTS. Prove the row's statement (the work); the ties are given (Qxb6604117aDoorTie.lean); close each card by the builder's one call (the guide's Derived/Test/ToyasCard.lean, 'card_holds'). Laid BY PROGRAM, IN A SANDBOX (cutbox-door.mjs). By AI agents, Wed Nov 11 2026. No macro, syntax, notation, axiom, sorry.
-/
import Derived.Test.Qxb6604117aDoorRows
import GoSem.ClaimSeven
namespace Go.Proofs.Qxb6604117aDoor
namespace Rows

/-- THE TIED CARD OF 'zzlaws_internal_roles_b1.FnIsDNSNameMatchesScanner'. -/
def fnIsDNSNameMatchesScannerCard : Claim7 := { stood := { row := fnIsDNSNameMatchesScannerRow, standIns := [], harness := (true, "55edf129cb24f8d7e834a104d227188e3382e8bc300fd91fed81bc0fb308f5bc"), looks := false }, kinds := [], alts := [], laidByText := true, laidKinds := [.data, .pinned], laidTests := true, laidLooks := .later }
def FnIsDNSNameMatchesScannerCardSaid : Prop := Claim7.holds Tryd.pinned (.plain (OpenSpec.ofChange fnIsDNSNameMatchesScannerSpec)) fnIsDNSNameMatchesScannerCard
end Rows
end Go.Proofs.Qxb6604117aDoor
