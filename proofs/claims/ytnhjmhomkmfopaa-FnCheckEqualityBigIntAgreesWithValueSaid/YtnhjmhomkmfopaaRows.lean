/-
  No cell of these rows narrows 'for every input' (looked for: loops, veiled, ifaces, maps, wideKeys, modest, calm, conditions, laid).
  DERIVED. THE GIVEN ROWS OF THIS SEAT. 4 by the template 'for every input the law returns true; each argument reads behind the call as it read before'; 0 by the template 'total and deterministic' (their statements: YtnhjmhomkmfopaaTotals.lean).
  GIVEN WITH THE SEED: the statements are not yours to turn. If you find one false, say at which input.
  Laid BY PROGRAM, IN A SANDBOX (cutbox-rows.mjs): the forced cells as the released guide's own fill.sh prints them over the translation ac727a9a210be04e… (all of the seat's roots in one cut). By AI agents, Wed Nov 11 2026. No macro, syntax, notation, axiom, sorry.
-/
import Derived.Test.YtnhjmhomkmfopaaChecked
import GoSem.Claim
import GoSem.ClaimJoined
import GoSem.ClaimMapViews
import Derived.JoinedTies
import Derived.KernelRfl
namespace Go.Proofs.Ytnhjmhomkmfopaa
/- THE CELL 'sum', in the pinned program and in every row, IS THE sha256 OF THE DUMP (.gsa) THAT YtnhjmhomkmfopaaProg.lean LOADS. Nothing in Lean hashes anything: it is a label: what it is worth is what the hold of that sum in a sandbox is worth. -/
noncomputable def Try.pinned : Pinned := { name := "ytnhjmhomkmfopaa", sum := "ac727a9a210be04eb318d35a2cc6696bfe2ebf4c94204727d06662988c4ea9d7", checked := Try.checked }
namespace Rows
def none {H : Type} : Left H := { results := [], args := [] }

/-- 'n011_47.FnExtractNumericValueChainSpec': WHATEVER THE INPUT: true; the input reads as it did. -/
def fnExtractNumericValueChainSpecSpec : ChangeSpec := { name := "fnExtractNumericValueChainSpec", fn := fun _ => fun
  | [d1, d2, d3, d4] => { results := [.lit (.bool true)], args := [d1, d2, d3, d4] }
  | _ => none }
def fnExtractNumericValueChainSpecRow : OpenClaim := { program := "ytnhjmhomkmfopaa", sum := "ac727a9a210be04eb318d35a2cc6696bfe2ebf4c94204727d06662988c4ea9d7", func := "github.com/evanw/esbuild/n011_47.FnExtractNumericValueChainSpec", spec := "fnExtractNumericValueChainSpec", recurses := true, apart := false }
def FnExtractNumericValueChainSpecSaid : Prop := fnExtractNumericValueChainSpecRow.holds Try.pinned (OpenSpec.ofChange fnExtractNumericValueChainSpecSpec)

/-- ITS FALSE NEIGHBOUR: 'it returns false'. Refute it at one input. -/
def fnExtractNumericValueChainSpecWrong : ChangeSpec := { name := "fnExtractNumericValueChainSpec", fn := fun _ => fun
  | [d1, d2, d3, d4] => { results := [.lit (.bool false)], args := [d1, d2, d3, d4] }
  | _ => none }
def FnExtractNumericValueChainSpecWrongFalsely : Prop := fnExtractNumericValueChainSpecRow.holds Try.pinned (OpenSpec.ofChange fnExtractNumericValueChainSpecWrong)

/-- 'n011_47.FnExtractNumericValuesSwapAgree': WHATEVER THE INPUT: true; the input reads as it did. -/
def fnExtractNumericValuesSwapAgreeSpec : ChangeSpec := { name := "fnExtractNumericValuesSwapAgree", fn := fun _ => fun
  | [d1, d2, d3, d4, d5, d6] => { results := [.lit (.bool true)], args := [d1, d2, d3, d4, d5, d6] }
  | _ => none }
def fnExtractNumericValuesSwapAgreeRow : OpenClaim := { program := "ytnhjmhomkmfopaa", sum := "ac727a9a210be04eb318d35a2cc6696bfe2ebf4c94204727d06662988c4ea9d7", func := "github.com/evanw/esbuild/n011_47.FnExtractNumericValuesSwapAgree", spec := "fnExtractNumericValuesSwapAgree", recurses := true, apart := false }
def FnExtractNumericValuesSwapAgreeSaid : Prop := fnExtractNumericValuesSwapAgreeRow.holds Try.pinned (OpenSpec.ofChange fnExtractNumericValuesSwapAgreeSpec)

/-- ITS FALSE NEIGHBOUR: 'it returns false'. Refute it at one input. -/
def fnExtractNumericValuesSwapAgreeWrong : ChangeSpec := { name := "fnExtractNumericValuesSwapAgree", fn := fun _ => fun
  | [d1, d2, d3, d4, d5, d6] => { results := [.lit (.bool false)], args := [d1, d2, d3, d4, d5, d6] }
  | _ => none }
def FnExtractNumericValuesSwapAgreeWrongFalsely : Prop := fnExtractNumericValuesSwapAgreeRow.holds Try.pinned (OpenSpec.ofChange fnExtractNumericValuesSwapAgreeWrong)

/-- 'n011_298.FnStringCompareUCS2Exact': WHATEVER THE INPUT: true; the input reads as it did. -/
def fnStringCompareUCS2ExactSpec : ChangeSpec := { name := "fnStringCompareUCS2Exact", fn := fun _ => fun
  | [d1, d2] => { results := [.lit (.bool true)], args := [d1, d2] }
  | _ => none }
def fnStringCompareUCS2ExactRow : OpenClaim := { program := "ytnhjmhomkmfopaa", sum := "ac727a9a210be04eb318d35a2cc6696bfe2ebf4c94204727d06662988c4ea9d7", func := "github.com/evanw/esbuild/n011_298.FnStringCompareUCS2Exact", spec := "fnStringCompareUCS2Exact", apart := false }
def FnStringCompareUCS2ExactSaid : Prop := fnStringCompareUCS2ExactRow.holds Try.pinned (OpenSpec.ofChange fnStringCompareUCS2ExactSpec)

/-- ITS FALSE NEIGHBOUR: 'it returns false'. Refute it at one input. -/
def fnStringCompareUCS2ExactWrong : ChangeSpec := { name := "fnStringCompareUCS2Exact", fn := fun _ => fun
  | [d1, d2] => { results := [.lit (.bool false)], args := [d1, d2] }
  | _ => none }
def FnStringCompareUCS2ExactWrongFalsely : Prop := fnStringCompareUCS2ExactRow.holds Try.pinned (OpenSpec.ofChange fnStringCompareUCS2ExactWrong)

/-- 'n011_90.FnCheckEqualityBigIntAgreesWithValue': WHATEVER THE INPUT: true; the input reads as it did. -/
def fnCheckEqualityBigIntAgreesWithValueSpec : ChangeSpec := { name := "fnCheckEqualityBigIntAgreesWithValue", fn := fun _ => fun
  | [d1, d2, d3, d4] => { results := [.lit (.bool true)], args := [d1, d2, d3, d4] }
  | _ => none }
def fnCheckEqualityBigIntAgreesWithValueRow : OpenClaim := { program := "ytnhjmhomkmfopaa", sum := "ac727a9a210be04eb318d35a2cc6696bfe2ebf4c94204727d06662988c4ea9d7", func := "github.com/evanw/esbuild/n011_90.FnCheckEqualityBigIntAgreesWithValue", spec := "fnCheckEqualityBigIntAgreesWithValue", apart := false }
def FnCheckEqualityBigIntAgreesWithValueSaid : Prop := fnCheckEqualityBigIntAgreesWithValueRow.holds Try.pinned (OpenSpec.ofChange fnCheckEqualityBigIntAgreesWithValueSpec)

/-- ITS FALSE NEIGHBOUR: 'it returns false'. Refute it at one input. -/
def fnCheckEqualityBigIntAgreesWithValueWrong : ChangeSpec := { name := "fnCheckEqualityBigIntAgreesWithValue", fn := fun _ => fun
  | [d1, d2, d3, d4] => { results := [.lit (.bool false)], args := [d1, d2, d3, d4] }
  | _ => none }
def FnCheckEqualityBigIntAgreesWithValueWrongFalsely : Prop := fnCheckEqualityBigIntAgreesWithValueRow.holds Try.pinned (OpenSpec.ofChange fnCheckEqualityBigIntAgreesWithValueWrong)

/- THE SECOND FORM. 'bulk': how many values and letters a reading holds, each counted each time it is reached (what is shared counts as often as it is met; a slice's spare places count too). A statement '..UptoSaid' is the law's where the arguments, and the package variables that the reading takes, are together of bulk at most 1048576: NARROWER than '..Said'. Prove '..Said' where nothing that the law and all that it calls make is longer than what came in: it says more and counts as full. Else prove '..UptoSaid'. A law counts once. -/
mutual
def uptoBulk {H : Type} : DataW H → Nat
  | .lit (.string bytes) => bytes.length + 1
  | .lit _ => 1
  | .nil => 1
  | .ptr d => uptoBulk d + 1
  | .slice elems spare => uptoBulkAll elems + uptoBulkAll spare + 1
  | .agg parts => uptoBulkAll parts + 1
  | .iface _ d => uptoBulk d + 1
  | .map entries => uptoBulkEntries entries + 1
  | .held _ => 1
def uptoBulkAll {H : Type} : List (DataW H) → Nat
  | [] => 0
  | d :: r => uptoBulk d + uptoBulkAll r
def uptoBulkEntries {H : Type} : List (Lit × DataW H) → Nat
  | [] => 0
  | x :: r => uptoBulkEntry x + uptoBulkEntries r
def uptoBulkEntry {H : Type} : Lit × DataW H → Nat
  | (.string bytes, d) => bytes.length + uptoBulk d + 1
  | (_, d) => uptoBulk d + 1
 end
def uptoSmall : (H : Type) → List (DataW H) → Bool := fun _ ds => decide (uptoBulkAll ds ≤ 1048576)
def OpenSpec.upto (s : _root_.Go.ChangeSpec) : _root_.Go.OpenSpec := { _root_.Go.OpenSpec.ofChange s with cond := some uptoSmall }

/-- 'n011_47.FnExtractNumericValueChainSpec', WHERE WHAT IT READS IS OF BULK AT MOST 1048576: true; the input reads as it did. -/
def fnExtractNumericValueChainSpecUptoRow : OpenClaim := { program := "ytnhjmhomkmfopaa", sum := "ac727a9a210be04eb318d35a2cc6696bfe2ebf4c94204727d06662988c4ea9d7", func := "github.com/evanw/esbuild/n011_47.FnExtractNumericValueChainSpec", spec := "fnExtractNumericValueChainSpec", recurses := true, apart := false, narrowed := true }
def FnExtractNumericValueChainSpecUptoSaid : Prop := fnExtractNumericValueChainSpecUptoRow.holds Try.pinned (OpenSpec.upto fnExtractNumericValueChainSpecSpec)

/-- 'n011_47.FnExtractNumericValuesSwapAgree', WHERE WHAT IT READS IS OF BULK AT MOST 1048576: true; the input reads as it did. -/
def fnExtractNumericValuesSwapAgreeUptoRow : OpenClaim := { program := "ytnhjmhomkmfopaa", sum := "ac727a9a210be04eb318d35a2cc6696bfe2ebf4c94204727d06662988c4ea9d7", func := "github.com/evanw/esbuild/n011_47.FnExtractNumericValuesSwapAgree", spec := "fnExtractNumericValuesSwapAgree", recurses := true, apart := false, narrowed := true }
def FnExtractNumericValuesSwapAgreeUptoSaid : Prop := fnExtractNumericValuesSwapAgreeUptoRow.holds Try.pinned (OpenSpec.upto fnExtractNumericValuesSwapAgreeSpec)

/-- 'n011_298.FnStringCompareUCS2Exact', WHERE WHAT IT READS IS OF BULK AT MOST 1048576: true; the input reads as it did. -/
def fnStringCompareUCS2ExactUptoRow : OpenClaim := { program := "ytnhjmhomkmfopaa", sum := "ac727a9a210be04eb318d35a2cc6696bfe2ebf4c94204727d06662988c4ea9d7", func := "github.com/evanw/esbuild/n011_298.FnStringCompareUCS2Exact", spec := "fnStringCompareUCS2Exact", apart := false, narrowed := true }
def FnStringCompareUCS2ExactUptoSaid : Prop := fnStringCompareUCS2ExactUptoRow.holds Try.pinned (OpenSpec.upto fnStringCompareUCS2ExactSpec)

/-- 'n011_90.FnCheckEqualityBigIntAgreesWithValue', WHERE WHAT IT READS IS OF BULK AT MOST 1048576: true; the input reads as it did. -/
def fnCheckEqualityBigIntAgreesWithValueUptoRow : OpenClaim := { program := "ytnhjmhomkmfopaa", sum := "ac727a9a210be04eb318d35a2cc6696bfe2ebf4c94204727d06662988c4ea9d7", func := "github.com/evanw/esbuild/n011_90.FnCheckEqualityBigIntAgreesWithValue", spec := "fnCheckEqualityBigIntAgreesWithValue", apart := false, narrowed := true }
def FnCheckEqualityBigIntAgreesWithValueUptoSaid : Prop := fnCheckEqualityBigIntAgreesWithValueUptoRow.holds Try.pinned (OpenSpec.upto fnCheckEqualityBigIntAgreesWithValueSpec)

end Rows
end Go.Proofs.Ytnhjmhomkmfopaa
