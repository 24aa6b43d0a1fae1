/-
  DERIVED. GIVEN WITH THE SEED: THE CARDS: each row of Qxb6604678aGreatFmtRows.lean that lists a variable, with what it lists TIED to the program's text (the seventh form; the later family's looks); each row that meets fmt, with fmt's text TOLD by the authors' own Lean function (tested against real Go, not proved from fmt's source: count such statements apart). THE CARD IS WHAT COUNTS. Prove the row's statement (the work); the ties are given (Qxb6604678aGreatFmtTie.lean); close each card by the builder's one call (the guide's Derived/Test/ToyasCard.lean, 'card_holds'). Laid BY PROGRAM, IN A SANDBOX (cutbox-door.mjs). By AI agents, Wed Nov 11 2026. No macro, syntax, notation, axiom, sorry.
-/
import Derived.Test.Qxb6604678aGreatFmtRows
import GoSem.ClaimSeven
namespace Go.Proofs.Qxb6604678aGreatFmt
namespace Rows

/-- THE TOLD AND TIED CARD OF 'zzlaws_pkg_toml_b1.FnKeyWrittenPartsParseBack'. -/
def fnKeyWrittenPartsParseBackCard : Claim7 := { stood := { row := fnKeyWrittenPartsParseBackRow, standIns := [], harness := (true, "c19b25ce8c9c354080d247333a8ee181914f92be0cf405a8dcc70ffee8eb331a"), looks := true }, told := true, laidByText := true, laidKinds := [.data, .data, .data, .data, .sentinel, .sentinel, .pinned, .pinned, .pinned, .pinned, .pinned, .pinned], laidTests := true, laidLooks := .later, goes := false }
def FnKeyWrittenPartsParseBackToldSaid : Prop := Claim7.holds Tryz.pinned (.plain (OpenSpec.ofChange fnKeyWrittenPartsParseBackSpec)) fnKeyWrittenPartsParseBackCard
/-- ITS FALSE NEIGHBOUR. Refute it at one input. -/
def FnKeyWrittenPartsParseBackToldWrongFalsely : Prop := Claim7.holds Tryz.pinned (.plain (OpenSpec.ofChange fnKeyWrittenPartsParseBackWrong)) fnKeyWrittenPartsParseBackCard
end Rows
end Go.Proofs.Qxb6604678aGreatFmt
