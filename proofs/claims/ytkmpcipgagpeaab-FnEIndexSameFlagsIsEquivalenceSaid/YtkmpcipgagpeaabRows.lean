/-
  No cell of these rows narrows 'for every input' (looked for: loops, veiled, ifaces, maps, wideKeys, modest, calm, conditions, laid).
  DERIVED. THE GIVEN ROWS OF THIS SEAT. 3 by the template 'for every input the law returns true; each argument reads behind the call as it read before'; 0 by the template 'total and deterministic' (their statements: YtkmpcipgagpeaabTotals.lean).
  GIVEN WITH THE SEED: the statements are not yours to turn. If you find one false, say at which input.
  Laid BY PROGRAM, IN A SANDBOX (cutbox-rows.mjs): the forced cells as the released guide's own fill.sh prints them over the translation 631342a79ea632c4… (all of the seat's roots in one cut). By AI agents, Wed Nov 11 2026. No macro, syntax, notation, axiom, sorry.
-/
import Derived.Test.YtkmpcipgagpeaabChecked
import GoSem.Claim
import GoSem.ClaimJoined
import GoSem.ClaimMapViews
import Derived.JoinedTies
import Derived.KernelRfl
namespace Go.Proofs.Ytkmpcipgagpeaab
/- THE CELL 'sum', in the pinned program and in every row, IS THE sha256 OF THE DUMP (.gsa) THAT YtkmpcipgagpeaabProg.lean LOADS. Nothing in Lean hashes anything: it is a label: what it is worth is what the hold of that sum in a sandbox is worth. -/
noncomputable def Try.pinned : Pinned := { name := "ytkmpcipgagpeaab", sum := "631342a79ea632c450e0e1839c03c41a7e6016c8c619f7c958fe0625417a8afe", checked := Try.checked }
namespace Rows
def none {H : Type} : Left H := { results := [], args := [] }

/-- 'n011_43.FnDivUndoesIntegerProduct': WHATEVER THE INPUT: true; the input reads as it did. -/
def fnDivUndoesIntegerProductSpec : ChangeSpec := { name := "fnDivUndoesIntegerProduct", fn := fun _ => fun
  | [d1, d2] => { results := [.lit (.bool true)], args := [d1, d2] }
  | _ => none }
def fnDivUndoesIntegerProductRow : OpenClaim := { program := "ytkmpcipgagpeaab", sum := "631342a79ea632c450e0e1839c03c41a7e6016c8c619f7c958fe0625417a8afe", func := "github.com/evanw/esbuild/n011_43.FnDivUndoesIntegerProduct", spec := "fnDivUndoesIntegerProduct", apart := false }
def FnDivUndoesIntegerProductSaid : Prop := fnDivUndoesIntegerProductRow.holds Try.pinned (OpenSpec.ofChange fnDivUndoesIntegerProductSpec)

/-- ITS FALSE NEIGHBOUR: 'it returns false'. Refute it at one input. -/
def fnDivUndoesIntegerProductWrong : ChangeSpec := { name := "fnDivUndoesIntegerProduct", fn := fun _ => fun
  | [d1, d2] => { results := [.lit (.bool false)], args := [d1, d2] }
  | _ => none }
def FnDivUndoesIntegerProductWrongFalsely : Prop := fnDivUndoesIntegerProductRow.holds Try.pinned (OpenSpec.ofChange fnDivUndoesIntegerProductWrong)

/-- 'n011_285.FnECallSameFlagsIsEquivalence': WHATEVER THE INPUT: true; the input reads as it did. -/
def fnECallSameFlagsIsEquivalenceSpec : ChangeSpec := { name := "fnECallSameFlagsIsEquivalence", fn := fun _ => fun
  | [d1, d2, d3, d4, d5, d6, d7, d8, d9, d10, d11, d12] => { results := [.lit (.bool true)], args := [d1, d2, d3, d4, d5, d6, d7, d8, d9, d10, d11, d12] }
  | _ => none }
def fnECallSameFlagsIsEquivalenceRow : OpenClaim := { program := "ytkmpcipgagpeaab", sum := "631342a79ea632c450e0e1839c03c41a7e6016c8c619f7c958fe0625417a8afe", func := "github.com/evanw/esbuild/n011_285.FnECallSameFlagsIsEquivalence", spec := "fnECallSameFlagsIsEquivalence", apart := false }
def FnECallSameFlagsIsEquivalenceSaid : Prop := fnECallSameFlagsIsEquivalenceRow.holds Try.pinned (OpenSpec.ofChange fnECallSameFlagsIsEquivalenceSpec)

/-- ITS FALSE NEIGHBOUR: 'it returns false'. Refute it at one input. -/
def fnECallSameFlagsIsEquivalenceWrong : ChangeSpec := { name := "fnECallSameFlagsIsEquivalence", fn := fun _ => fun
  | [d1, d2, d3, d4, d5, d6, d7, d8, d9, d10, d11, d12] => { results := [.lit (.bool false)], args := [d1, d2, d3, d4, d5, d6, d7, d8, d9, d10, d11, d12] }
  | _ => none }
def FnECallSameFlagsIsEquivalenceWrongFalsely : Prop := fnECallSameFlagsIsEquivalenceRow.holds Try.pinned (OpenSpec.ofChange fnECallSameFlagsIsEquivalenceWrong)

/-- 'n011_285.FnEIndexSameFlagsIsEquivalence': WHATEVER THE INPUT: true; the input reads as it did. -/
def fnEIndexSameFlagsIsEquivalenceSpec : ChangeSpec := { name := "fnEIndexSameFlagsIsEquivalence", fn := fun _ => fun
  | [d1, d2, d3, d4, d5, d6, d7, d8, d9, d10, d11, d12] => { results := [.lit (.bool true)], args := [d1, d2, d3, d4, d5, d6, d7, d8, d9, d10, d11, d12] }
  | _ => none }
def fnEIndexSameFlagsIsEquivalenceRow : OpenClaim := { program := "ytkmpcipgagpeaab", sum := "631342a79ea632c450e0e1839c03c41a7e6016c8c619f7c958fe0625417a8afe", func := "github.com/evanw/esbuild/n011_285.FnEIndexSameFlagsIsEquivalence", spec := "fnEIndexSameFlagsIsEquivalence", apart := false }
def FnEIndexSameFlagsIsEquivalenceSaid : Prop := fnEIndexSameFlagsIsEquivalenceRow.holds Try.pinned (OpenSpec.ofChange fnEIndexSameFlagsIsEquivalenceSpec)

/-- ITS FALSE NEIGHBOUR: 'it returns false'. Refute it at one input. -/
def fnEIndexSameFlagsIsEquivalenceWrong : ChangeSpec := { name := "fnEIndexSameFlagsIsEquivalence", fn := fun _ => fun
  | [d1, d2, d3, d4, d5, d6, d7, d8, d9, d10, d11, d12] => { results := [.lit (.bool false)], args := [d1, d2, d3, d4, d5, d6, d7, d8, d9, d10, d11, d12] }
  | _ => none }
def FnEIndexSameFlagsIsEquivalenceWrongFalsely : Prop := fnEIndexSameFlagsIsEquivalenceRow.holds Try.pinned (OpenSpec.ofChange fnEIndexSameFlagsIsEquivalenceWrong)

/- THE SECOND FORM. 'bulk': how many values and letters a reading holds, each counted each time it is reached (what is shared counts as often as it is met; a slice's spare places count too). A statement '..UptoSaid' is the law's where the arguments, and the package variables that the reading takes, are together of bulk at most 1048576: NARROWER than '..Said'. Prove '..Said' where nothing that the law and all that it calls make is longer than what came in: it says more and counts as full. Else prove '..UptoSaid'. A law counts once. -/
mutual
def uptoBulk {H : Type} : DataW H → Nat
  | .lit (.string bytes) => bytes.length + 1
  | .lit _ => 1
  | .nil => 1
  | .ptr d => uptoBulk d + 1
  | .slice elems spare => uptoBulkAll elems + uptoBulkAll spare + 1
  | .agg parts => uptoBulkAll parts + 1
  | .iface _ d => uptoBulk d + 1
  | .map entries => uptoBulkEntries entries + 1
  | .held _ => 1
def uptoBulkAll {H : Type} : List (DataW H) → Nat
  | [] => 0
  | d :: r => uptoBulk d + uptoBulkAll r
def uptoBulkEntries {H : Type} : List (Lit × DataW H) → Nat
  | [] => 0
  | x :: r => uptoBulkEntry x + uptoBulkEntries r
def uptoBulkEntry {H : Type} : Lit × DataW H → Nat
  | (.string bytes, d) => bytes.length + uptoBulk d + 1
  | (_, d) => uptoBulk d + 1
 end
def uptoSmall : (H : Type) → List (DataW H) → Bool := fun _ ds => decide (uptoBulkAll ds ≤ 1048576)
def OpenSpec.upto (s : _root_.Go.ChangeSpec) : _root_.Go.OpenSpec := { _root_.Go.OpenSpec.ofChange s with cond := some uptoSmall }

/-- 'n011_43.FnDivUndoesIntegerProduct', WHERE WHAT IT READS IS OF BULK AT MOST 1048576: true; the input reads as it did. -/
def fnDivUndoesIntegerProductUptoRow : OpenClaim := { program := "ytkmpcipgagpeaab", sum := "631342a79ea632c450e0e1839c03c41a7e6016c8c619f7c958fe0625417a8afe", func := "github.com/evanw/esbuild/n011_43.FnDivUndoesIntegerProduct", spec := "fnDivUndoesIntegerProduct", apart := false, narrowed := true }
def FnDivUndoesIntegerProductUptoSaid : Prop := fnDivUndoesIntegerProductUptoRow.holds Try.pinned (OpenSpec.upto fnDivUndoesIntegerProductSpec)

/-- 'n011_285.FnECallSameFlagsIsEquivalence', WHERE WHAT IT READS IS OF BULK AT MOST 1048576: true; the input reads as it did. -/
def fnECallSameFlagsIsEquivalenceUptoRow : OpenClaim := { program := "ytkmpcipgagpeaab", sum := "631342a79ea632c450e0e1839c03c41a7e6016c8c619f7c958fe0625417a8afe", func := "github.com/evanw/esbuild/n011_285.FnECallSameFlagsIsEquivalence", spec := "fnECallSameFlagsIsEquivalence", apart := false, narrowed := true }
def FnECallSameFlagsIsEquivalenceUptoSaid : Prop := fnECallSameFlagsIsEquivalenceUptoRow.holds Try.pinned (OpenSpec.upto fnECallSameFlagsIsEquivalenceSpec)

/-- 'n011_285.FnEIndexSameFlagsIsEquivalence', WHERE WHAT IT READS IS OF BULK AT MOST 1048576: true; the input reads as it did. -/
def fnEIndexSameFlagsIsEquivalenceUptoRow : OpenClaim := { program := "ytkmpcipgagpeaab", sum := "631342a79ea632c450e0e1839c03c41a7e6016c8c619f7c958fe0625417a8afe", func := "github.com/evanw/esbuild/n011_285.FnEIndexSameFlagsIsEquivalence", spec := "fnEIndexSameFlagsIsEquivalence", apart := false, narrowed := true }
def FnEIndexSameFlagsIsEquivalenceUptoSaid : Prop := fnEIndexSameFlagsIsEquivalenceUptoRow.holds Try.pinned (OpenSpec.upto fnEIndexSameFlagsIsEquivalenceSpec)

end Rows
end Go.Proofs.Ytkmpcipgagpeaab
