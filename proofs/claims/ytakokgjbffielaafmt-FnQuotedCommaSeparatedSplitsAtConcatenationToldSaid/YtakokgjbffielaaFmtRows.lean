/-
  No cell of these rows narrows 'for every input' (looked for: loops, veiled, ifaces, maps, wideKeys, modest, calm, conditions, laid).
  DERIVED. THE GIVEN ROWS OF THIS SEAT. 1 by the template 'for every input the law returns true; each argument reads behind the call as it read before'; 0 by the template 'total and deterministic' (their statements: YtakokgjbffielaaFmtTotals.lean).
  GIVEN WITH THE SEED: the statements are not yours to turn. If you find one false, say at which input.
  Laid BY PROGRAM, IN A SANDBOX (cutbox-rows.mjs): the forced cells as the released guide's own fill.sh prints them over the translation c7fdca0c8f1948fb… (all of the seat's roots in one cut). By AI agents, Wed Nov 11 2026. No macro, syntax, notation, axiom, sorry.
-/
import Derived.Test.YtakokgjbffielaaFmtChecked
import GoSem.Claim
import GoSem.ClaimJoined
import GoSem.ClaimMapViews
import Derived.JoinedTies
import Derived.KernelRfl
namespace Go.Proofs.YtakokgjbffielaaFmt
/- THE CELL 'sum', in the pinned program and in every row, IS THE sha256 OF THE DUMP (.gsa) THAT YtakokgjbffielaaFmtProg.lean LOADS. Nothing in Lean hashes anything: it is a label: what it is worth is what the hold of that sum in a sandbox is worth. -/
noncomputable def Tryf.pinned : Pinned := { name := "ytakokgjbffielaafmt", sum := "c7fdca0c8f1948fb0cc8ca320688c5bc8207d483621e5a0cee57304e8cdd56b6", checked := Tryf.checked }
namespace Rows
def none {H : Type} : Left H := { results := [], args := [] }

/-- 'n011_20.FnQuotedCommaSeparatedSplitsAtConcatenation': WHATEVER THE INPUT: true; the input reads as it did. -/
def fnQuotedCommaSeparatedSplitsAtConcatenationSpec : ChangeSpec := { name := "fnQuotedCommaSeparatedSplitsAtConcatenation", fn := fun _ => fun
  | [d1, d2] => { results := [.lit (.bool true)], args := [d1, d2] }
  | _ => none }
def fnQuotedCommaSeparatedSplitsAtConcatenationRow : OpenClaim := { program := "ytakokgjbffielaafmt", sum := "c7fdca0c8f1948fb0cc8ca320688c5bc8207d483621e5a0cee57304e8cdd56b6", func := "github.com/evanw/esbuild/n011_20.FnQuotedCommaSeparatedSplitsAtConcatenation", spec := "fnQuotedCommaSeparatedSplitsAtConcatenation", stops := ["fmt.Sprintf"], inPlace := ["internal/abi.NoEscape", "fmt.Sprintf"], apart := false }
/-- NO THEOREM (fmt's text is open here; it may be false): for the released tool's asking of the row's closed facts alone. THE STATEMENT IS 'FnQuotedCommaSeparatedSplitsAtConcatenationToldSaid' (YtakokgjbffielaaFmtCards.lean). -/
def FnQuotedCommaSeparatedSplitsAtConcatenationFormAsk : Prop := fnQuotedCommaSeparatedSplitsAtConcatenationRow.holds Tryf.pinned (OpenSpec.ofChange fnQuotedCommaSeparatedSplitsAtConcatenationSpec)

/-- ITS FALSE NEIGHBOUR: 'it returns false'. Refute it at one input. -/
def fnQuotedCommaSeparatedSplitsAtConcatenationWrong : ChangeSpec := { name := "fnQuotedCommaSeparatedSplitsAtConcatenation", fn := fun _ => fun
  | [d1, d2] => { results := [.lit (.bool false)], args := [d1, d2] }
  | _ => none }
def FnQuotedCommaSeparatedSplitsAtConcatenationWrongFormAsk : Prop := fnQuotedCommaSeparatedSplitsAtConcatenationRow.holds Tryf.pinned (OpenSpec.ofChange fnQuotedCommaSeparatedSplitsAtConcatenationWrong)

end Rows
end Go.Proofs.YtakokgjbffielaaFmt
