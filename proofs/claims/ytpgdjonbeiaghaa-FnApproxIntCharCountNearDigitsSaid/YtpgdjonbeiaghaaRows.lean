/-
  No cell of these rows narrows 'for every input' (looked for: loops, veiled, ifaces, maps, wideKeys, modest, calm, conditions, laid).
  DERIVED. THE GIVEN ROWS OF THIS SEAT. 3 by the template 'for every input the law returns true; each argument reads behind the call as it read before'; 0 by the template 'total and deterministic' (their statements: YtpgdjonbeiaghaaTotals.lean).
  GIVEN WITH THE SEED: the statements are not yours to turn. If you find one false, say at which input.
  Laid BY PROGRAM, IN A SANDBOX (cutbox-rows.mjs): the forced cells as the released guide's own fill.sh prints them over the translation f819dbac92051a88… (all of the seat's roots in one cut). By AI agents, Wed Nov 11 2026. No macro, syntax, notation, axiom, sorry.
-/
import Derived.Test.YtpgdjonbeiaghaaChecked
import GoSem.Claim
import GoSem.ClaimJoined
import GoSem.ClaimMapViews
import Derived.JoinedTies
import Derived.KernelRfl
namespace Go.Proofs.Ytpgdjonbeiaghaa
/- THE CELL 'sum', in the pinned program and in every row, IS THE sha256 OF THE DUMP (.gsa) THAT YtpgdjonbeiaghaaProg.lean LOADS. Nothing in Lean hashes anything: it is a label: what it is worth is what the hold of that sum in a sandbox is worth. -/
noncomputable def Try.pinned : Pinned := { name := "ytpgdjonbeiaghaa", sum := "f819dbac92051a884a46ba1a132251cce42417d0304c4c5680e6f1e3705afc3c", checked := Try.checked }
namespace Rows
def none {H : Type} : Left H := { results := [], args := [] }

/-- 'n011_294.FnToInt32MatchesBitModel': WHATEVER THE INPUT: true; the input reads as it did. -/
def fnToInt32MatchesBitModelSpec : ChangeSpec := { name := "fnToInt32MatchesBitModel", fn := fun _ => fun
  | [d] => { results := [.lit (.bool true)], args := [d] }
  | _ => none }
def fnToInt32MatchesBitModelRow : OpenClaim := { program := "ytpgdjonbeiaghaa", sum := "f819dbac92051a884a46ba1a132251cce42417d0304c4c5680e6f1e3705afc3c", func := "github.com/evanw/esbuild/n011_294.FnToInt32MatchesBitModel", spec := "fnToInt32MatchesBitModel", inPlace := ["math.Float64bits", "math.Float64frombits"], apart := false }
def FnToInt32MatchesBitModelSaid : Prop := fnToInt32MatchesBitModelRow.holds Try.pinned (OpenSpec.ofChange fnToInt32MatchesBitModelSpec)

/-- ITS FALSE NEIGHBOUR: 'it returns false'. Refute it at one input. -/
def fnToInt32MatchesBitModelWrong : ChangeSpec := { name := "fnToInt32MatchesBitModel", fn := fun _ => fun
  | [d] => { results := [.lit (.bool false)], args := [d] }
  | _ => none }
def FnToInt32MatchesBitModelWrongFalsely : Prop := fnToInt32MatchesBitModelRow.holds Try.pinned (OpenSpec.ofChange fnToInt32MatchesBitModelWrong)

/-- 'n011_294.FnToUint32RoundTripsEveryUint32': WHATEVER THE INPUT: true; the input reads as it did. -/
def fnToUint32RoundTripsEveryUint32Spec : ChangeSpec := { name := "fnToUint32RoundTripsEveryUint32", fn := fun _ => fun
  | [d] => { results := [.lit (.bool true)], args := [d] }
  | _ => none }
def fnToUint32RoundTripsEveryUint32Row : OpenClaim := { program := "ytpgdjonbeiaghaa", sum := "f819dbac92051a884a46ba1a132251cce42417d0304c4c5680e6f1e3705afc3c", func := "github.com/evanw/esbuild/n011_294.FnToUint32RoundTripsEveryUint32", spec := "fnToUint32RoundTripsEveryUint32", inPlace := ["math.Float64bits", "math.Float64frombits"], apart := false }
def FnToUint32RoundTripsEveryUint32Said : Prop := fnToUint32RoundTripsEveryUint32Row.holds Try.pinned (OpenSpec.ofChange fnToUint32RoundTripsEveryUint32Spec)

/-- ITS FALSE NEIGHBOUR: 'it returns false'. Refute it at one input. -/
def fnToUint32RoundTripsEveryUint32Wrong : ChangeSpec := { name := "fnToUint32RoundTripsEveryUint32", fn := fun _ => fun
  | [d] => { results := [.lit (.bool false)], args := [d] }
  | _ => none }
def FnToUint32RoundTripsEveryUint32WrongFalsely : Prop := fnToUint32RoundTripsEveryUint32Row.holds Try.pinned (OpenSpec.ofChange fnToUint32RoundTripsEveryUint32Wrong)

/-- 'n011_298.FnApproxIntCharCountNearDigits': WHATEVER THE INPUT: true; the input reads as it did. -/
def fnApproxIntCharCountNearDigitsSpec : ChangeSpec := { name := "fnApproxIntCharCountNearDigits", fn := fun _ => fun
  | [d] => { results := [.lit (.bool true)], args := [d] }
  | _ => none }
def fnApproxIntCharCountNearDigitsRow : OpenClaim := { program := "ytpgdjonbeiaghaa", sum := "f819dbac92051a884a46ba1a132251cce42417d0304c4c5680e6f1e3705afc3c", func := "github.com/evanw/esbuild/n011_298.FnApproxIntCharCountNearDigits", spec := "fnApproxIntCharCountNearDigits", inPlace := ["math.Float64bits", "math.Float64frombits", "math.archLog", "math.archFloor", "math.archTrunc", "math.archMax"], apart := false }
def FnApproxIntCharCountNearDigitsSaid : Prop := fnApproxIntCharCountNearDigitsRow.holds Try.pinned (OpenSpec.ofChange fnApproxIntCharCountNearDigitsSpec)

/-- ITS FALSE NEIGHBOUR: 'it returns false'. Refute it at one input. -/
def fnApproxIntCharCountNearDigitsWrong : ChangeSpec := { name := "fnApproxIntCharCountNearDigits", fn := fun _ => fun
  | [d] => { results := [.lit (.bool false)], args := [d] }
  | _ => none }
def FnApproxIntCharCountNearDigitsWrongFalsely : Prop := fnApproxIntCharCountNearDigitsRow.holds Try.pinned (OpenSpec.ofChange fnApproxIntCharCountNearDigitsWrong)

/- THE SECOND FORM. 'bulk': how many values and letters a reading holds, each counted each time it is reached (what is shared counts as often as it is met; a slice's spare places count too). A statement '..UptoSaid' is the law's where the arguments, and the package variables that the reading takes, are together of bulk at most 1048576: NARROWER than '..Said'. Prove '..Said' where nothing that the law and all that it calls make is longer than what came in: it says more and counts as full. Else prove '..UptoSaid'. A law counts once. -/
mutual
def uptoBulk {H : Type} : DataW H → Nat
  | .lit (.string bytes) => bytes.length + 1
  | .lit _ => 1
  | .nil => 1
  | .ptr d => uptoBulk d + 1
  | .slice elems spare => uptoBulkAll elems + uptoBulkAll spare + 1
  | .agg parts => uptoBulkAll parts + 1
  | .iface _ d => uptoBulk d + 1
  | .map entries => uptoBulkEntries entries + 1
  | .held _ => 1
def uptoBulkAll {H : Type} : List (DataW H) → Nat
  | [] => 0
  | d :: r => uptoBulk d + uptoBulkAll r
def uptoBulkEntries {H : Type} : List (Lit × DataW H) → Nat
  | [] => 0
  | x :: r => uptoBulkEntry x + uptoBulkEntries r
def uptoBulkEntry {H : Type} : Lit × DataW H → Nat
  | (.string bytes, d) => bytes.length + uptoBulk d + 1
  | (_, d) => uptoBulk d + 1
 end
def uptoSmall : (H : Type) → List (DataW H) → Bool := fun _ ds => decide (uptoBulkAll ds ≤ 1048576)
def OpenSpec.upto (s : _root_.Go.ChangeSpec) : _root_.Go.OpenSpec := { _root_.Go.OpenSpec.ofChange s with cond := some uptoSmall }

/-- 'n011_294.FnToInt32MatchesBitModel', WHERE WHAT IT READS IS OF BULK AT MOST 1048576: true; the input reads as it did. -/
def fnToInt32MatchesBitModelUptoRow : OpenClaim := { program := "ytpgdjonbeiaghaa", sum := "f819dbac92051a884a46ba1a132251cce42417d0304c4c5680e6f1e3705afc3c", func := "github.com/evanw/esbuild/n011_294.FnToInt32MatchesBitModel", spec := "fnToInt32MatchesBitModel", inPlace := ["math.Float64bits", "math.Float64frombits"], apart := false, narrowed := true }
def FnToInt32MatchesBitModelUptoSaid : Prop := fnToInt32MatchesBitModelUptoRow.holds Try.pinned (OpenSpec.upto fnToInt32MatchesBitModelSpec)

/-- 'n011_294.FnToUint32RoundTripsEveryUint32', WHERE WHAT IT READS IS OF BULK AT MOST 1048576: true; the input reads as it did. -/
def fnToUint32RoundTripsEveryUint32UptoRow : OpenClaim := { program := "ytpgdjonbeiaghaa", sum := "f819dbac92051a884a46ba1a132251cce42417d0304c4c5680e6f1e3705afc3c", func := "github.com/evanw/esbuild/n011_294.FnToUint32RoundTripsEveryUint32", spec := "fnToUint32RoundTripsEveryUint32", inPlace := ["math.Float64bits", "math.Float64frombits"], apart := false, narrowed := true }
def FnToUint32RoundTripsEveryUint32UptoSaid : Prop := fnToUint32RoundTripsEveryUint32UptoRow.holds Try.pinned (OpenSpec.upto fnToUint32RoundTripsEveryUint32Spec)

/-- 'n011_298.FnApproxIntCharCountNearDigits', WHERE WHAT IT READS IS OF BULK AT MOST 1048576: true; the input reads as it did. -/
def fnApproxIntCharCountNearDigitsUptoRow : OpenClaim := { program := "ytpgdjonbeiaghaa", sum := "f819dbac92051a884a46ba1a132251cce42417d0304c4c5680e6f1e3705afc3c", func := "github.com/evanw/esbuild/n011_298.FnApproxIntCharCountNearDigits", spec := "fnApproxIntCharCountNearDigits", inPlace := ["math.Float64bits", "math.Float64frombits", "math.archLog", "math.archFloor", "math.archTrunc", "math.archMax"], apart := false, narrowed := true }
def FnApproxIntCharCountNearDigitsUptoSaid : Prop := fnApproxIntCharCountNearDigitsUptoRow.holds Try.pinned (OpenSpec.upto fnApproxIntCharCountNearDigitsSpec)

end Rows
end Go.Proofs.Ytpgdjonbeiaghaa
