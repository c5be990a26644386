/-
  DERIVED. GIVEN WITH THE SEED: THE CARDS: each row of YtlgdojbojlbehaaDoorRows.lean that lists a variable, with what it lists TIED to the program's text (the seventh form; the later family's looks); each row that meets fmt, with fmt's text TOLD by the authors' own Lean function (tested against real Go, not proved from fmt's source: count such statements apart). THE CARD IS WHAT COUNTS. Prove the row's statement (the work); the ties are given (YtlgdojbojlbehaaDoorTie.lean); close each card by the builder's one call (the guide's Derived/Test/ToyasCard.lean, 'card_holds'). Laid BY PROGRAM, IN A SANDBOX (cutbox-door.mjs). By AI agents, Wed Nov 11 2026. No macro, syntax, notation, axiom, sorry.
-/
import Derived.Test.YtlgdojbojlbehaaDoorRows
import GoSem.ClaimSeven
namespace Go.Proofs.YtlgdojbojlbehaaDoor
namespace Rows

/-- THE TIED CARD OF 'n011_167.FnIsInsideNodeModulesMatchesSegmentModel'. -/
def fnIsInsideNodeModulesMatchesSegmentModelCard : Claim7 := { stood := { row := fnIsInsideNodeModulesMatchesSegmentModelRow, standIns := [], harness := (true, "ce008b2378933643d9d6ccd8e479503f1cb6757bceb99649663ae99c10381911"), looks := false }, kinds := [], alts := [], laidByText := true, laidKinds := [.data, .pinned], laidTests := true, laidLooks := .later }
def FnIsInsideNodeModulesMatchesSegmentModelCardSaid : Prop := Claim7.holds Tryd.pinned (.plain (OpenSpec.ofChange fnIsInsideNodeModulesMatchesSegmentModelSpec)) fnIsInsideNodeModulesMatchesSegmentModelCard

/-- THE SECOND FORM's CARD OF 'n011_167.FnIsInsideNodeModulesMatchesSegmentModel'. -/
def fnIsInsideNodeModulesMatchesSegmentModelUptoCard : Claim7 := { stood := { row := fnIsInsideNodeModulesMatchesSegmentModelUptoRow, standIns := [], harness := (true, "ce008b2378933643d9d6ccd8e479503f1cb6757bceb99649663ae99c10381911"), looks := false }, kinds := [], alts := [], laidByText := true, laidKinds := [.data, .pinned], laidTests := true, laidLooks := .later }
def FnIsInsideNodeModulesMatchesSegmentModelUptoCardSaid : Prop := Claim7.holds Tryd.pinned (.plain (OpenSpec.upto fnIsInsideNodeModulesMatchesSegmentModelSpec)) fnIsInsideNodeModulesMatchesSegmentModelUptoCard
end Rows
end Go.Proofs.YtlgdojbojlbehaaDoor
