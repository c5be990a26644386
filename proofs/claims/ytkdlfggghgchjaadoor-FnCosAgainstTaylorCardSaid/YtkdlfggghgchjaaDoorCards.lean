/-
  DERIVED. GIVEN WITH THE SEED: THE CARDS: each row of YtkdlfggghgchjaaDoorRows.lean that lists a variable, with what it lists TIED to the program's text (the seventh form; the later family's looks); each row that meets fmt, with fmt's text TOLD by the authors' own Lean function (tested against real Go, not proved from fmt's source: count such statements apart). THE CARD IS WHAT COUNTS. Prove the row's statement (the work); the ties are given (YtkdlfggghgchjaaDoorTie.lean); close each card by the builder's one call (the guide's Derived/Test/ToyasCard.lean, 'card_holds'). Laid BY PROGRAM, IN A SANDBOX (cutbox-door.mjs). By AI agents, Wed Nov 11 2026. No macro, syntax, notation, axiom, sorry.
-/
import Derived.Test.YtkdlfggghgchjaaDoorRows
import GoSem.ClaimSeven
namespace Go.Proofs.YtkdlfggghgchjaaDoor
namespace Rows

/-- THE TIED CARD OF 'n011_268.FnCosAgainstTaylor'. -/
def fnCosAgainstTaylorCard : Claim7 := { stood := { row := fnCosAgainstTaylorRow, standIns := [], harness := (true, "fa7f66be73369d82a594d5059c3b8e9f4ea41f12835707d9538e59d3f093b0b9"), looks := false }, kinds := [], alts := [], laidByText := true, laidKinds := [.data, .data, .data], laidTests := true, laidLooks := .later }
def FnCosAgainstTaylorCardSaid : Prop := Claim7.holds Tryd.pinned (.plain (OpenSpec.ofChange fnCosAgainstTaylorSpec)) fnCosAgainstTaylorCard

/-- THE SECOND FORM's CARD OF 'n011_268.FnCosAgainstTaylor'. -/
def fnCosAgainstTaylorUptoCard : Claim7 := { stood := { row := fnCosAgainstTaylorUptoRow, standIns := [], harness := (true, "fa7f66be73369d82a594d5059c3b8e9f4ea41f12835707d9538e59d3f093b0b9"), looks := false }, kinds := [], alts := [], laidByText := true, laidKinds := [.data, .data, .data], laidTests := true, laidLooks := .later }
def FnCosAgainstTaylorUptoCardSaid : Prop := Claim7.holds Tryd.pinned (.plain (OpenSpec.upto fnCosAgainstTaylorSpec)) fnCosAgainstTaylorUptoCard
end Rows
end Go.Proofs.YtkdlfggghgchjaaDoor
