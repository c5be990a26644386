/-
  No cell of these rows narrows 'for every input' (looked for: loops, veiled, ifaces, maps, wideKeys, modest, calm, conditions, laid).
  DERIVED. THE GIVEN ROWS OF THIS SEAT. 2 by the template 'for every input the law returns true; each argument reads behind the call as it read before'; 0 by the template 'total and deterministic' (their statements: YtocnfapldcjilaaTotals.lean).
  GIVEN WITH THE SEED: the statements are not yours to turn. If you find one false, say at which input.
  Laid BY PROGRAM, IN A SANDBOX (cutbox-rows.mjs): the forced cells as the released guide's own fill.sh prints them over the translation 7d0b810bcd88b00e… (all of the seat's roots in one cut). By AI agents, Wed Nov 11 2026. No macro, syntax, notation, axiom, sorry.
-/
import Derived.Test.YtocnfapldcjilaaChecked
import GoSem.Claim
import GoSem.ClaimJoined
import GoSem.ClaimMapViews
import Derived.JoinedTies
import Derived.KernelRfl
namespace Go.Proofs.Ytocnfapldcjilaa
/- THE CELL 'sum', in the pinned program and in every row, IS THE sha256 OF THE DUMP (.gsa) THAT YtocnfapldcjilaaProg.lean LOADS. Nothing in Lean hashes anything: it is a label: what it is worth is what the hold of that sum in a sandbox is worth. -/
noncomputable def Try.pinned : Pinned := { name := "ytocnfapldcjilaa", sum := "7d0b810bcd88b00ea609a1e213ea159c07ca12a0d235be04886ee5a0b6ef99b0", checked := Try.checked }
namespace Rows
def none {H : Type} : Left H := { results := [], args := [] }

/-- 'n011_41.FnParseGlobPatternInvertsToString': WHATEVER THE INPUT: true; the input reads as it did. -/
def fnParseGlobPatternInvertsToStringSpec : ChangeSpec := { name := "fnParseGlobPatternInvertsToString", fn := fun _ => fun
  | [d1, d2] => { results := [.lit (.bool true)], args := [d1, d2] }
  | _ => none }
def fnParseGlobPatternInvertsToStringRow : OpenClaim := { program := "ytocnfapldcjilaa", sum := "7d0b810bcd88b00ea609a1e213ea159c07ca12a0d235be04886ee5a0b6ef99b0", func := "github.com/evanw/esbuild/n011_41.FnParseGlobPatternInvertsToString", spec := "fnParseGlobPatternInvertsToString", inPlace := ["internal/abi.NoEscape", "internal/bytealg.IndexByteString"], apart := false }
def FnParseGlobPatternInvertsToStringSaid : Prop := fnParseGlobPatternInvertsToStringRow.holds Try.pinned (OpenSpec.ofChange fnParseGlobPatternInvertsToStringSpec)

/-- ITS FALSE NEIGHBOUR: 'it returns false'. Refute it at one input. -/
def fnParseGlobPatternInvertsToStringWrong : ChangeSpec := { name := "fnParseGlobPatternInvertsToString", fn := fun _ => fun
  | [d1, d2] => { results := [.lit (.bool false)], args := [d1, d2] }
  | _ => none }
def FnParseGlobPatternInvertsToStringWrongFalsely : Prop := fnParseGlobPatternInvertsToStringRow.holds Try.pinned (OpenSpec.ofChange fnParseGlobPatternInvertsToStringWrong)

/-- 'n011_74.FnQuoteForJSONRoundTrip': WHATEVER THE INPUT: true; the input reads as it did. -/
def fnQuoteForJSONRoundTripSpec : ChangeSpec := { name := "fnQuoteForJSONRoundTrip", fn := fun _ => fun
  | [d1, d2] => { results := [.lit (.bool true)], args := [d1, d2] }
  | _ => none }
def fnQuoteForJSONRoundTripRow : OpenClaim := { program := "ytocnfapldcjilaa", sum := "7d0b810bcd88b00ea609a1e213ea159c07ca12a0d235be04886ee5a0b6ef99b0", func := "github.com/evanw/esbuild/n011_74.FnQuoteForJSONRoundTrip", spec := "fnQuoteForJSONRoundTrip", apart := false }
def FnQuoteForJSONRoundTripSaid : Prop := fnQuoteForJSONRoundTripRow.holds Try.pinned (OpenSpec.ofChange fnQuoteForJSONRoundTripSpec)

/-- ITS FALSE NEIGHBOUR: 'it returns false'. Refute it at one input. -/
def fnQuoteForJSONRoundTripWrong : ChangeSpec := { name := "fnQuoteForJSONRoundTrip", fn := fun _ => fun
  | [d1, d2] => { results := [.lit (.bool false)], args := [d1, d2] }
  | _ => none }
def FnQuoteForJSONRoundTripWrongFalsely : Prop := fnQuoteForJSONRoundTripRow.holds Try.pinned (OpenSpec.ofChange fnQuoteForJSONRoundTripWrong)

/- THE SECOND FORM. 'bulk': how many values and letters a reading holds, each counted each time it is reached (what is shared counts as often as it is met; a slice's spare places count too). A statement '..UptoSaid' is the law's where the arguments, and the package variables that the reading takes, are together of bulk at most 1048576: NARROWER than '..Said'. Prove '..Said' where nothing that the law and all that it calls make is longer than what came in: it says more and counts as full. Else prove '..UptoSaid'. A law counts once. -/
mutual
def uptoBulk {H : Type} : DataW H → Nat
  | .lit (.string bytes) => bytes.length + 1
  | .lit _ => 1
  | .nil => 1
  | .ptr d => uptoBulk d + 1
  | .slice elems spare => uptoBulkAll elems + uptoBulkAll spare + 1
  | .agg parts => uptoBulkAll parts + 1
  | .iface _ d => uptoBulk d + 1
  | .map entries => uptoBulkEntries entries + 1
  | .held _ => 1
def uptoBulkAll {H : Type} : List (DataW H) → Nat
  | [] => 0
  | d :: r => uptoBulk d + uptoBulkAll r
def uptoBulkEntries {H : Type} : List (Lit × DataW H) → Nat
  | [] => 0
  | x :: r => uptoBulkEntry x + uptoBulkEntries r
def uptoBulkEntry {H : Type} : Lit × DataW H → Nat
  | (.string bytes, d) => bytes.length + uptoBulk d + 1
  | (_, d) => uptoBulk d + 1
 end
def uptoSmall : (H : Type) → List (DataW H) → Bool := fun _ ds => decide (uptoBulkAll ds ≤ 1048576)
def OpenSpec.upto (s : _root_.Go.ChangeSpec) : _root_.Go.OpenSpec := { _root_.Go.OpenSpec.ofChange s with cond := some uptoSmall }

/-- 'n011_41.FnParseGlobPatternInvertsToString', WHERE WHAT IT READS IS OF BULK AT MOST 1048576: true; the input reads as it did. -/
def fnParseGlobPatternInvertsToStringUptoRow : OpenClaim := { program := "ytocnfapldcjilaa", sum := "7d0b810bcd88b00ea609a1e213ea159c07ca12a0d235be04886ee5a0b6ef99b0", func := "github.com/evanw/esbuild/n011_41.FnParseGlobPatternInvertsToString", spec := "fnParseGlobPatternInvertsToString", inPlace := ["internal/abi.NoEscape", "internal/bytealg.IndexByteString"], apart := false, narrowed := true }
def FnParseGlobPatternInvertsToStringUptoSaid : Prop := fnParseGlobPatternInvertsToStringUptoRow.holds Try.pinned (OpenSpec.upto fnParseGlobPatternInvertsToStringSpec)

/-- 'n011_74.FnQuoteForJSONRoundTrip', WHERE WHAT IT READS IS OF BULK AT MOST 1048576: true; the input reads as it did. -/
def fnQuoteForJSONRoundTripUptoRow : OpenClaim := { program := "ytocnfapldcjilaa", sum := "7d0b810bcd88b00ea609a1e213ea159c07ca12a0d235be04886ee5a0b6ef99b0", func := "github.com/evanw/esbuild/n011_74.FnQuoteForJSONRoundTrip", spec := "fnQuoteForJSONRoundTrip", apart := false, narrowed := true }
def FnQuoteForJSONRoundTripUptoSaid : Prop := fnQuoteForJSONRoundTripUptoRow.holds Try.pinned (OpenSpec.upto fnQuoteForJSONRoundTripSpec)

end Rows
end Go.Proofs.Ytocnfapldcjilaa
