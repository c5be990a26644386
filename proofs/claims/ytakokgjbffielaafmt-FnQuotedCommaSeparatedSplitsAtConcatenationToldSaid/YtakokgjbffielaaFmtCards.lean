/-
  DERIVED. GIVEN WITH THE SEED: THE CARDS: each row of YtakokgjbffielaaFmtRows.lean that lists a variable, with what it lists TIED to the program's text (the seventh form; the later family's looks); each row that meets fmt, with fmt's text TOLD by the authors' own Lean function (tested against real Go, not proved from fmt's source: count such statements apart). THE CARD IS WHAT COUNTS. Prove the row's statement (the work); the ties are given (YtakokgjbffielaaFmtTie.lean); close each card by the builder's one call (the guide's Derived/Test/ToyasCard.lean, 'card_holds'). Laid BY PROGRAM, IN A SANDBOX (cutbox-door.mjs). By AI agents, Wed Nov 11 2026. No macro, syntax, notation, axiom, sorry.
-/
import Derived.Test.YtakokgjbffielaaFmtRows
import GoSem.ClaimSeven
namespace Go.Proofs.YtakokgjbffielaaFmt
namespace Rows

/-- THE TOLD CARD OF 'n011_20.FnQuotedCommaSeparatedSplitsAtConcatenation'. -/
def fnQuotedCommaSeparatedSplitsAtConcatenationCard : Claim7 := { stood := { row := fnQuotedCommaSeparatedSplitsAtConcatenationRow, standIns := [], harness := (true, "33f2212f11412c7ae34368958c3e2144ae16a5090085a4e03f8a685e022898b9"), looks := false }, told := true, goes := false }
def FnQuotedCommaSeparatedSplitsAtConcatenationToldSaid : Prop := Claim7.holds Tryf.pinned (.plain (OpenSpec.ofChange fnQuotedCommaSeparatedSplitsAtConcatenationSpec)) fnQuotedCommaSeparatedSplitsAtConcatenationCard
/-- ITS FALSE NEIGHBOUR. Refute it at one input. -/
def FnQuotedCommaSeparatedSplitsAtConcatenationToldWrongFalsely : Prop := Claim7.holds Tryf.pinned (.plain (OpenSpec.ofChange fnQuotedCommaSeparatedSplitsAtConcatenationWrong)) fnQuotedCommaSeparatedSplitsAtConcatenationCard
end Rows
end Go.Proofs.YtakokgjbffielaaFmt
