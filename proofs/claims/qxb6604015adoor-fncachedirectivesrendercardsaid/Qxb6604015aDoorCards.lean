/-
  DERIVED. GIVEN WITH THE SEED: THE CARDS: each row of Qxb6604015aDoorRows.lean that lists a variable, with what it lists TIED to the program's text (the seventh form; the later family's looks); each row that meets fmt, with fmt's text TOLD by the authors' own Lean function (tested against real Go, not proved from fmt's source: count such statements apart). THE CARD IS WHAT COUNTS. Prove the row's statement (the work); the ties are given (Qxb6604015aDoorTie.lean); close each card by the builder's one call (the guide's Derived/Test/ToyasCard.lean, 'card_holds'). Laid BY PROGRAM, IN A SANDBOX (cutbox-door.mjs). By AI agents, Wed Nov 11 2026. No macro, syntax, notation, axiom, sorry.
-/
import Derived.Test.Qxb6604015aDoorRows
import GoSem.ClaimSeven
namespace Go.Proofs.Qxb6604015aDoor
namespace Rows

/-- THE TIED CARD OF 'zzlaws_ri_b1.FnCacheDirectivesSpec'. -/
def fnCacheDirectivesSpecCard : Claim7 := { stood := { row := fnCacheDirectivesSpecRow, standIns := [], harness := (true, "d755817e34ddb67a2afa098645766e7f7698dccadda302782a402eebcbceb6ca"), looks := false }, kinds := [], alts := [], laidByText := true, laidKinds := [.data, .pinned, .pinned], laidTests := true, laidLooks := .later }
def FnCacheDirectivesSpecCardSaid : Prop := Claim7.holds Tryd.pinned (.plain (OpenSpec.ofChange fnCacheDirectivesSpecSpec)) fnCacheDirectivesSpecCard

/-- THE TIED CARD OF 'zzlaws_ri_b1.FnCacheDirectivesRender'. -/
def fnCacheDirectivesRenderCard : Claim7 := { stood := { row := fnCacheDirectivesRenderRow, standIns := [], harness := (true, "d755817e34ddb67a2afa098645766e7f7698dccadda302782a402eebcbceb6ca"), looks := false }, kinds := [], alts := [], laidByText := true, laidKinds := [.data, .pinned, .pinned], laidTests := true, laidLooks := .later }
def FnCacheDirectivesRenderCardSaid : Prop := Claim7.holds Tryd.pinned (.plain (OpenSpec.ofChange fnCacheDirectivesRenderSpec)) fnCacheDirectivesRenderCard
end Rows
end Go.Proofs.Qxb6604015aDoor
