/-
  No cell of these rows narrows 'for every input' (looked for: loops, veiled, ifaces, maps, wideKeys, modest, calm, conditions, laid).
  DERIVED. THE GIVEN ROWS OF THIS SEAT. 3 by the template 'for every input the law returns true; each argument reads behind the call as it read before'; 0 by the template 'total and deterministic' (their statements: YtakokgjbffielaaTotals.lean).
  GIVEN WITH THE SEED: the statements are not yours to turn. If you find one false, say at which input.
  Laid BY PROGRAM, IN A SANDBOX (cutbox-rows.mjs): the forced cells as the released guide's own fill.sh prints them over the translation eb40d8929befdfc7… (all of the seat's roots in one cut). By AI agents, Wed Nov 11 2026. No macro, syntax, notation, axiom, sorry.
-/
import Derived.Test.YtakokgjbffielaaChecked
import GoSem.Claim
import GoSem.ClaimJoined
import GoSem.ClaimMapViews
import Derived.JoinedTies
import Derived.KernelRfl
namespace Go.Proofs.Ytakokgjbffielaa
/- THE CELL 'sum', in the pinned program and in every row, IS THE sha256 OF THE DUMP (.gsa) THAT YtakokgjbffielaaProg.lean LOADS. Nothing in Lean hashes anything: it is a label: what it is worth is what the hold of that sum in a sandbox is worth. -/
noncomputable def Try.pinned : Pinned := { name := "ytakokgjbffielaa", sum := "eb40d8929befdfc70b660162e958db98b71bcbd3498fd8af1af29c497578a805", checked := Try.checked }
namespace Rows
def none {H : Type} : Left H := { results := [], args := [] }

/-- 'n011_34.FnEnsureNewlineAtEndModel': WHATEVER THE INPUT: true; the input reads as it did. -/
def fnEnsureNewlineAtEndModelSpec : ChangeSpec := { name := "fnEnsureNewlineAtEndModel", fn := fun _ => fun
  | [d1, d2] => { results := [.lit (.bool true)], args := [d1, d2] }
  | _ => none }
def fnEnsureNewlineAtEndModelRow : OpenClaim := { program := "ytakokgjbffielaa", sum := "eb40d8929befdfc70b660162e958db98b71bcbd3498fd8af1af29c497578a805", func := "github.com/evanw/esbuild/n011_34.FnEnsureNewlineAtEndModel", spec := "fnEnsureNewlineAtEndModel", apart := false }
def FnEnsureNewlineAtEndModelSaid : Prop := fnEnsureNewlineAtEndModelRow.holds Try.pinned (OpenSpec.ofChange fnEnsureNewlineAtEndModelSpec)

/-- ITS FALSE NEIGHBOUR: 'it returns false'. Refute it at one input. -/
def fnEnsureNewlineAtEndModelWrong : ChangeSpec := { name := "fnEnsureNewlineAtEndModel", fn := fun _ => fun
  | [d1, d2] => { results := [.lit (.bool false)], args := [d1, d2] }
  | _ => none }
def FnEnsureNewlineAtEndModelWrongFalsely : Prop := fnEnsureNewlineAtEndModelRow.holds Try.pinned (OpenSpec.ofChange fnEnsureNewlineAtEndModelWrong)

/-- 'n011_141.FnJoinerMixedScriptDoneIsConcat': WHATEVER THE INPUT: true; the input reads as it did. -/
def fnJoinerMixedScriptDoneIsConcatSpec : ChangeSpec := { name := "fnJoinerMixedScriptDoneIsConcat", fn := fun _ => fun
  | [d1, d2] => { results := [.lit (.bool true)], args := [d1, d2] }
  | _ => none }
def fnJoinerMixedScriptDoneIsConcatRow : OpenClaim := { program := "ytakokgjbffielaa", sum := "eb40d8929befdfc70b660162e958db98b71bcbd3498fd8af1af29c497578a805", func := "github.com/evanw/esbuild/n011_141.FnJoinerMixedScriptDoneIsConcat", spec := "fnJoinerMixedScriptDoneIsConcat", apart := false }
def FnJoinerMixedScriptDoneIsConcatSaid : Prop := fnJoinerMixedScriptDoneIsConcatRow.holds Try.pinned (OpenSpec.ofChange fnJoinerMixedScriptDoneIsConcatSpec)

/-- ITS FALSE NEIGHBOUR: 'it returns false'. Refute it at one input. -/
def fnJoinerMixedScriptDoneIsConcatWrong : ChangeSpec := { name := "fnJoinerMixedScriptDoneIsConcat", fn := fun _ => fun
  | [d1, d2] => { results := [.lit (.bool false)], args := [d1, d2] }
  | _ => none }
def FnJoinerMixedScriptDoneIsConcatWrongFalsely : Prop := fnJoinerMixedScriptDoneIsConcatRow.holds Try.pinned (OpenSpec.ofChange fnJoinerMixedScriptDoneIsConcatWrong)

/-- 'n011_20.FnStringArraysEqualIsEquivalenceAndLengthSensitive': WHATEVER THE INPUT: true; the input reads as it did. -/
def fnStringArraysEqualIsEquivalenceAndLengthSensitiveSpec : ChangeSpec := { name := "fnStringArraysEqualIsEquivalenceAndLengthSensitive", fn := fun _ => fun
  | [d1, d2] => { results := [.lit (.bool true)], args := [d1, d2] }
  | _ => none }
def fnStringArraysEqualIsEquivalenceAndLengthSensitiveRow : OpenClaim := { program := "ytakokgjbffielaa", sum := "eb40d8929befdfc70b660162e958db98b71bcbd3498fd8af1af29c497578a805", func := "github.com/evanw/esbuild/n011_20.FnStringArraysEqualIsEquivalenceAndLengthSensitive", spec := "fnStringArraysEqualIsEquivalenceAndLengthSensitive", apart := false }
def FnStringArraysEqualIsEquivalenceAndLengthSensitiveSaid : Prop := fnStringArraysEqualIsEquivalenceAndLengthSensitiveRow.holds Try.pinned (OpenSpec.ofChange fnStringArraysEqualIsEquivalenceAndLengthSensitiveSpec)

/-- ITS FALSE NEIGHBOUR: 'it returns false'. Refute it at one input. -/
def fnStringArraysEqualIsEquivalenceAndLengthSensitiveWrong : ChangeSpec := { name := "fnStringArraysEqualIsEquivalenceAndLengthSensitive", fn := fun _ => fun
  | [d1, d2] => { results := [.lit (.bool false)], args := [d1, d2] }
  | _ => none }
def FnStringArraysEqualIsEquivalenceAndLengthSensitiveWrongFalsely : Prop := fnStringArraysEqualIsEquivalenceAndLengthSensitiveRow.holds Try.pinned (OpenSpec.ofChange fnStringArraysEqualIsEquivalenceAndLengthSensitiveWrong)

/- THE SECOND FORM. 'bulk': how many values and letters a reading holds, each counted each time it is reached (what is shared counts as often as it is met; a slice's spare places count too). A statement '..UptoSaid' is the law's where the arguments, and the package variables that the reading takes, are together of bulk at most 1048576: NARROWER than '..Said'. Prove '..Said' where nothing that the law and all that it calls make is longer than what came in: it says more and counts as full. Else prove '..UptoSaid'. A law counts once. -/
mutual
def uptoBulk {H : Type} : DataW H → Nat
  | .lit (.string bytes) => bytes.length + 1
  | .lit _ => 1
  | .nil => 1
  | .ptr d => uptoBulk d + 1
  | .slice elems spare => uptoBulkAll elems + uptoBulkAll spare + 1
  | .agg parts => uptoBulkAll parts + 1
  | .iface _ d => uptoBulk d + 1
  | .map entries => uptoBulkEntries entries + 1
  | .held _ => 1
def uptoBulkAll {H : Type} : List (DataW H) → Nat
  | [] => 0
  | d :: r => uptoBulk d + uptoBulkAll r
def uptoBulkEntries {H : Type} : List (Lit × DataW H) → Nat
  | [] => 0
  | x :: r => uptoBulkEntry x + uptoBulkEntries r
def uptoBulkEntry {H : Type} : Lit × DataW H → Nat
  | (.string bytes, d) => bytes.length + uptoBulk d + 1
  | (_, d) => uptoBulk d + 1
 end
def uptoSmall : (H : Type) → List (DataW H) → Bool := fun _ ds => decide (uptoBulkAll ds ≤ 1048576)
def OpenSpec.upto (s : _root_.Go.ChangeSpec) : _root_.Go.OpenSpec := { _root_.Go.OpenSpec.ofChange s with cond := some uptoSmall }

/-- 'n011_34.FnEnsureNewlineAtEndModel', WHERE WHAT IT READS IS OF BULK AT MOST 1048576: true; the input reads as it did. -/
def fnEnsureNewlineAtEndModelUptoRow : OpenClaim := { program := "ytakokgjbffielaa", sum := "eb40d8929befdfc70b660162e958db98b71bcbd3498fd8af1af29c497578a805", func := "github.com/evanw/esbuild/n011_34.FnEnsureNewlineAtEndModel", spec := "fnEnsureNewlineAtEndModel", apart := false, narrowed := true }
def FnEnsureNewlineAtEndModelUptoSaid : Prop := fnEnsureNewlineAtEndModelUptoRow.holds Try.pinned (OpenSpec.upto fnEnsureNewlineAtEndModelSpec)

/-- 'n011_141.FnJoinerMixedScriptDoneIsConcat', WHERE WHAT IT READS IS OF BULK AT MOST 1048576: true; the input reads as it did. -/
def fnJoinerMixedScriptDoneIsConcatUptoRow : OpenClaim := { program := "ytakokgjbffielaa", sum := "eb40d8929befdfc70b660162e958db98b71bcbd3498fd8af1af29c497578a805", func := "github.com/evanw/esbuild/n011_141.FnJoinerMixedScriptDoneIsConcat", spec := "fnJoinerMixedScriptDoneIsConcat", apart := false, narrowed := true }
def FnJoinerMixedScriptDoneIsConcatUptoSaid : Prop := fnJoinerMixedScriptDoneIsConcatUptoRow.holds Try.pinned (OpenSpec.upto fnJoinerMixedScriptDoneIsConcatSpec)

/-- 'n011_20.FnStringArraysEqualIsEquivalenceAndLengthSensitive', WHERE WHAT IT READS IS OF BULK AT MOST 1048576: true; the input reads as it did. -/
def fnStringArraysEqualIsEquivalenceAndLengthSensitiveUptoRow : OpenClaim := { program := "ytakokgjbffielaa", sum := "eb40d8929befdfc70b660162e958db98b71bcbd3498fd8af1af29c497578a805", func := "github.com/evanw/esbuild/n011_20.FnStringArraysEqualIsEquivalenceAndLengthSensitive", spec := "fnStringArraysEqualIsEquivalenceAndLengthSensitive", apart := false, narrowed := true }
def FnStringArraysEqualIsEquivalenceAndLengthSensitiveUptoSaid : Prop := fnStringArraysEqualIsEquivalenceAndLengthSensitiveUptoRow.holds Try.pinned (OpenSpec.upto fnStringArraysEqualIsEquivalenceAndLengthSensitiveSpec)

end Rows
end Go.Proofs.Ytakokgjbffielaa
