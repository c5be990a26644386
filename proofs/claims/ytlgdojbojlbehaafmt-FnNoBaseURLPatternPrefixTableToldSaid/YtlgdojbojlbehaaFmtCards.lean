/-
  DERIVED. GIVEN WITH THE SEED: THE CARDS: each row of YtlgdojbojlbehaaFmtRows.lean that lists a variable, with what it lists TIED to the program's text (the seventh form; the later family's looks); each row that meets fmt, with fmt's text TOLD by the authors' own Lean function (tested against real Go, not proved from fmt's source: count such statements apart). THE CARD IS WHAT COUNTS. Prove the row's statement (the work); the ties are given (YtlgdojbojlbehaaFmtTie.lean); close each card by the builder's one call (the guide's Derived/Test/ToyasCard.lean, 'card_holds'). Laid BY PROGRAM, IN A SANDBOX (cutbox-door.mjs). By AI agents, Wed Nov 11 2026. No macro, syntax, notation, axiom, sorry.
-/
import Derived.Test.YtlgdojbojlbehaaFmtRows
import GoSem.ClaimSeven
namespace Go.Proofs.YtlgdojbojlbehaaFmt
namespace Rows

/-- THE TOLD AND TIED CARD OF 'n011_22.FnNoBaseURLPatternPrefixTable'. -/
def fnNoBaseURLPatternPrefixTableCard : Claim7 := { stood := { row := fnNoBaseURLPatternPrefixTableRow, standIns := [], harness := (true, "0a795127e613ef4300079f5d9d78d38c244097642d316cfcd34adedb1812beda"), looks := false }, told := true, laidByText := true, laidKinds := [.data, .pinned], laidTests := true, laidLooks := .later, goes := false }
def FnNoBaseURLPatternPrefixTableToldSaid : Prop := Claim7.holds Tryf.pinned (.plain (OpenSpec.ofChange fnNoBaseURLPatternPrefixTableSpec)) fnNoBaseURLPatternPrefixTableCard
/-- ITS FALSE NEIGHBOUR. Refute it at one input. -/
def FnNoBaseURLPatternPrefixTableToldWrongFalsely : Prop := Claim7.holds Tryf.pinned (.plain (OpenSpec.ofChange fnNoBaseURLPatternPrefixTableWrong)) fnNoBaseURLPatternPrefixTableCard
end Rows
end Go.Proofs.YtlgdojbojlbehaaFmt
