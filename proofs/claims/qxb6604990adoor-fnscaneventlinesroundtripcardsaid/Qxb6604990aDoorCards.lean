/-
  DERIVED. GIVEN WITH THE SEED: THE CARDS: each row of Qxb6604990aDoorRows.lean that lists a variable, with what it lists TIED to the program's text (the seventh form; the later family's looks); each row that meets fmt, with fmt's text TOLD by the authors' own Lean function (tested against real Go, not proved from fmt's source: count such statements apart). THE CARD IS WHAT COUNTS. Prove the row's statement (the work); the ties are given (Qxb6604990aDoorTie.lean); close each card by the builder's one call (the guide's Derived/Test/ToyasCard.lean, 'card_holds'). Laid BY PROGRAM, IN A SANDBOX (cutbox-door.mjs). By AI agents, Wed Nov 11 2026. No macro, syntax, notation, axiom, sorry.
-/
import Derived.Test.Qxb6604990aDoorRows
import GoSem.ClaimSeven
namespace Go.Proofs.Qxb6604990aDoor
namespace Rows

/-- THE TIED CARD OF 'zzlaws_mcp_b1.FnScanEventLinesRoundTrip'. -/
def fnScanEventLinesRoundTripCard : Claim7 := { stood := { row := fnScanEventLinesRoundTripRow, standIns := [], harness := (true, "224213f2a4ee12fdc9c9834c74621e3bb4a618d3e1455470d888c28c1a34d087"), looks := false }, kinds := [], alts := [], laidByText := true, laidKinds := [.data, .pinned], laidTests := true, laidLooks := .later }
def FnScanEventLinesRoundTripCardSaid : Prop := Claim7.holds Tryd.pinned (.plain (OpenSpec.ofChange fnScanEventLinesRoundTripSpec)) fnScanEventLinesRoundTripCard
end Rows
end Go.Proofs.Qxb6604990aDoor
