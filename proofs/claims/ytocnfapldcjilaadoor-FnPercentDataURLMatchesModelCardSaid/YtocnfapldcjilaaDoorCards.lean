/-
  DERIVED. GIVEN WITH THE SEED: THE CARDS: each row of YtocnfapldcjilaaDoorRows.lean that lists a variable, with what it lists TIED to the program's text (the seventh form; the later family's looks); each row that meets fmt, with fmt's text TOLD by the authors' own Lean function (tested against real Go, not proved from fmt's source: count such statements apart). THE CARD IS WHAT COUNTS. Prove the row's statement (the work); the ties are given (YtocnfapldcjilaaDoorTie.lean); close each card by the builder's one call (the guide's Derived/Test/ToyasCard.lean, 'card_holds'). Laid BY PROGRAM, IN A SANDBOX (cutbox-door.mjs). By AI agents, Wed Nov 11 2026. No macro, syntax, notation, axiom, sorry.
-/
import Derived.Test.YtocnfapldcjilaaDoorRows
import GoSem.ClaimSeven
namespace Go.Proofs.YtocnfapldcjilaaDoor
namespace Rows

/-- THE TIED CARD OF 'n011_81.FnPercentDataURLMatchesModel'. -/
def fnPercentDataURLMatchesModelCard : Claim7 := { stood := { row := fnPercentDataURLMatchesModelRow, standIns := [], harness := (true, "2db902a6ed509c9d468569f3a3639cbe55c2fd7cae05cc213dc4e98f78194d9c"), looks := false }, kinds := [], alts := [], laidByText := true, laidKinds := [.data, .pinned], laidTests := true, laidLooks := .later }
def FnPercentDataURLMatchesModelCardSaid : Prop := Claim7.holds Tryd.pinned (.plain (OpenSpec.ofChange fnPercentDataURLMatchesModelSpec)) fnPercentDataURLMatchesModelCard

/-- THE SECOND FORM's CARD OF 'n011_81.FnPercentDataURLMatchesModel'. -/
def fnPercentDataURLMatchesModelUptoCard : Claim7 := { stood := { row := fnPercentDataURLMatchesModelUptoRow, standIns := [], harness := (true, "2db902a6ed509c9d468569f3a3639cbe55c2fd7cae05cc213dc4e98f78194d9c"), looks := false }, kinds := [], alts := [], laidByText := true, laidKinds := [.data, .pinned], laidTests := true, laidLooks := .later }
def FnPercentDataURLMatchesModelUptoCardSaid : Prop := Claim7.holds Tryd.pinned (.plain (OpenSpec.upto fnPercentDataURLMatchesModelSpec)) fnPercentDataURLMatchesModelUptoCard
end Rows
end Go.Proofs.YtocnfapldcjilaaDoor
