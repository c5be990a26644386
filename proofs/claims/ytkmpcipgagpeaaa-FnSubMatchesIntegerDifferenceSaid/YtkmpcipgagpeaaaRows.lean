/-
  No cell of these rows narrows 'for every input' (looked for: loops, veiled, ifaces, maps, wideKeys, modest, calm, conditions, laid).
  DERIVED. THE GIVEN ROWS OF THIS SEAT. 6 by the template 'for every input the law returns true; each argument reads behind the call as it read before'; 0 by the template 'total and deterministic' (their statements: YtkmpcipgagpeaaaTotals.lean).
  GIVEN WITH THE SEED: the statements are not yours to turn. If you find one false, say at which input.
  Laid BY PROGRAM, IN A SANDBOX (cutbox-rows.mjs): the forced cells as the released guide's own fill.sh prints them over the translation 7e158b598a6a40f1… (all of the seat's roots in one cut). By AI agents, Wed Nov 11 2026. No macro, syntax, notation, axiom, sorry.
-/
import Derived.Test.YtkmpcipgagpeaaaChecked
import GoSem.Claim
import GoSem.ClaimJoined
import GoSem.ClaimMapViews
import Derived.JoinedTies
import Derived.KernelRfl
namespace Go.Proofs.Ytkmpcipgagpeaaa
/- THE CELL 'sum', in the pinned program and in every row, IS THE sha256 OF THE DUMP (.gsa) THAT YtkmpcipgagpeaaaProg.lean LOADS. Nothing in Lean hashes anything: it is a label: what it is worth is what the hold of that sum in a sandbox is worth. -/
noncomputable def Try.pinned : Pinned := { name := "ytkmpcipgagpeaaa", sum := "7e158b598a6a40f1cc97d944198fee42fac6e8c0ba09136d8f9765eafd43b9e5", checked := Try.checked }
namespace Rows
def none {H : Type} : Left H := { results := [], args := [] }

/-- 'n011_41.FnHashCombineShiftsWithHash': WHATEVER THE INPUT: true; the input reads as it did. -/
def fnHashCombineShiftsWithHashSpec : ChangeSpec := { name := "fnHashCombineShiftsWithHash", fn := fun _ => fun
  | [d1, d2, d3] => { results := [.lit (.bool true)], args := [d1, d2, d3] }
  | _ => none }
def fnHashCombineShiftsWithHashRow : OpenClaim := { program := "ytkmpcipgagpeaaa", sum := "7e158b598a6a40f1cc97d944198fee42fac6e8c0ba09136d8f9765eafd43b9e5", func := "github.com/evanw/esbuild/n011_41.FnHashCombineShiftsWithHash", spec := "fnHashCombineShiftsWithHash", apart := false }
def FnHashCombineShiftsWithHashSaid : Prop := fnHashCombineShiftsWithHashRow.holds Try.pinned (OpenSpec.ofChange fnHashCombineShiftsWithHashSpec)

/-- ITS FALSE NEIGHBOUR: 'it returns false'. Refute it at one input. -/
def fnHashCombineShiftsWithHashWrong : ChangeSpec := { name := "fnHashCombineShiftsWithHash", fn := fun _ => fun
  | [d1, d2, d3] => { results := [.lit (.bool false)], args := [d1, d2, d3] }
  | _ => none }
def FnHashCombineShiftsWithHashWrongFalsely : Prop := fnHashCombineShiftsWithHashRow.holds Try.pinned (OpenSpec.ofChange fnHashCombineShiftsWithHashWrong)

/-- 'n011_43.FnMulCommutes': WHATEVER THE INPUT: true; the input reads as it did. -/
def fnMulCommutesSpec : ChangeSpec := { name := "fnMulCommutes", fn := fun _ => fun
  | [d1, d2] => { results := [.lit (.bool true)], args := [d1, d2] }
  | _ => none }
def fnMulCommutesRow : OpenClaim := { program := "ytkmpcipgagpeaaa", sum := "7e158b598a6a40f1cc97d944198fee42fac6e8c0ba09136d8f9765eafd43b9e5", func := "github.com/evanw/esbuild/n011_43.FnMulCommutes", spec := "fnMulCommutes", apart := false }
def FnMulCommutesSaid : Prop := fnMulCommutesRow.holds Try.pinned (OpenSpec.ofChange fnMulCommutesSpec)

/-- ITS FALSE NEIGHBOUR: 'it returns false'. Refute it at one input. -/
def fnMulCommutesWrong : ChangeSpec := { name := "fnMulCommutes", fn := fun _ => fun
  | [d1, d2] => { results := [.lit (.bool false)], args := [d1, d2] }
  | _ => none }
def FnMulCommutesWrongFalsely : Prop := fnMulCommutesRow.holds Try.pinned (OpenSpec.ofChange fnMulCommutesWrong)

/-- 'n011_51.FnNewF64KeepsOrder': WHATEVER THE INPUT: true; the input reads as it did. -/
def fnNewF64KeepsOrderSpec : ChangeSpec := { name := "fnNewF64KeepsOrder", fn := fun _ => fun
  | [d1, d2] => { results := [.lit (.bool true)], args := [d1, d2] }
  | _ => none }
def fnNewF64KeepsOrderRow : OpenClaim := { program := "ytkmpcipgagpeaaa", sum := "7e158b598a6a40f1cc97d944198fee42fac6e8c0ba09136d8f9765eafd43b9e5", func := "github.com/evanw/esbuild/n011_51.FnNewF64KeepsOrder", spec := "fnNewF64KeepsOrder", apart := false }
def FnNewF64KeepsOrderSaid : Prop := fnNewF64KeepsOrderRow.holds Try.pinned (OpenSpec.ofChange fnNewF64KeepsOrderSpec)

/-- ITS FALSE NEIGHBOUR: 'it returns false'. Refute it at one input. -/
def fnNewF64KeepsOrderWrong : ChangeSpec := { name := "fnNewF64KeepsOrder", fn := fun _ => fun
  | [d1, d2] => { results := [.lit (.bool false)], args := [d1, d2] }
  | _ => none }
def FnNewF64KeepsOrderWrongFalsely : Prop := fnNewF64KeepsOrderRow.holds Try.pinned (OpenSpec.ofChange fnNewF64KeepsOrderWrong)

/-- 'n011_28.FnAddMatchesIntegerSum': WHATEVER THE INPUT: true; the input reads as it did. -/
def fnAddMatchesIntegerSumSpec : ChangeSpec := { name := "fnAddMatchesIntegerSum", fn := fun _ => fun
  | [d1, d2] => { results := [.lit (.bool true)], args := [d1, d2] }
  | _ => none }
def fnAddMatchesIntegerSumRow : OpenClaim := { program := "ytkmpcipgagpeaaa", sum := "7e158b598a6a40f1cc97d944198fee42fac6e8c0ba09136d8f9765eafd43b9e5", func := "github.com/evanw/esbuild/n011_28.FnAddMatchesIntegerSum", spec := "fnAddMatchesIntegerSum", apart := false }
def FnAddMatchesIntegerSumSaid : Prop := fnAddMatchesIntegerSumRow.holds Try.pinned (OpenSpec.ofChange fnAddMatchesIntegerSumSpec)

/-- ITS FALSE NEIGHBOUR: 'it returns false'. Refute it at one input. -/
def fnAddMatchesIntegerSumWrong : ChangeSpec := { name := "fnAddMatchesIntegerSum", fn := fun _ => fun
  | [d1, d2] => { results := [.lit (.bool false)], args := [d1, d2] }
  | _ => none }
def FnAddMatchesIntegerSumWrongFalsely : Prop := fnAddMatchesIntegerSumRow.holds Try.pinned (OpenSpec.ofChange fnAddMatchesIntegerSumWrong)

/-- 'n011_28.FnSubConstUndoesAddConst': WHATEVER THE INPUT: true; the input reads as it did. -/
def fnSubConstUndoesAddConstSpec : ChangeSpec := { name := "fnSubConstUndoesAddConst", fn := fun _ => fun
  | [d1, d2] => { results := [.lit (.bool true)], args := [d1, d2] }
  | _ => none }
def fnSubConstUndoesAddConstRow : OpenClaim := { program := "ytkmpcipgagpeaaa", sum := "7e158b598a6a40f1cc97d944198fee42fac6e8c0ba09136d8f9765eafd43b9e5", func := "github.com/evanw/esbuild/n011_28.FnSubConstUndoesAddConst", spec := "fnSubConstUndoesAddConst", apart := false }
def FnSubConstUndoesAddConstSaid : Prop := fnSubConstUndoesAddConstRow.holds Try.pinned (OpenSpec.ofChange fnSubConstUndoesAddConstSpec)

/-- ITS FALSE NEIGHBOUR: 'it returns false'. Refute it at one input. -/
def fnSubConstUndoesAddConstWrong : ChangeSpec := { name := "fnSubConstUndoesAddConst", fn := fun _ => fun
  | [d1, d2] => { results := [.lit (.bool false)], args := [d1, d2] }
  | _ => none }
def FnSubConstUndoesAddConstWrongFalsely : Prop := fnSubConstUndoesAddConstRow.holds Try.pinned (OpenSpec.ofChange fnSubConstUndoesAddConstWrong)

/-- 'n011_28.FnSubMatchesIntegerDifference': WHATEVER THE INPUT: true; the input reads as it did. -/
def fnSubMatchesIntegerDifferenceSpec : ChangeSpec := { name := "fnSubMatchesIntegerDifference", fn := fun _ => fun
  | [d1, d2] => { results := [.lit (.bool true)], args := [d1, d2] }
  | _ => none }
def fnSubMatchesIntegerDifferenceRow : OpenClaim := { program := "ytkmpcipgagpeaaa", sum := "7e158b598a6a40f1cc97d944198fee42fac6e8c0ba09136d8f9765eafd43b9e5", func := "github.com/evanw/esbuild/n011_28.FnSubMatchesIntegerDifference", spec := "fnSubMatchesIntegerDifference", apart := false }
def FnSubMatchesIntegerDifferenceSaid : Prop := fnSubMatchesIntegerDifferenceRow.holds Try.pinned (OpenSpec.ofChange fnSubMatchesIntegerDifferenceSpec)

/-- ITS FALSE NEIGHBOUR: 'it returns false'. Refute it at one input. -/
def fnSubMatchesIntegerDifferenceWrong : ChangeSpec := { name := "fnSubMatchesIntegerDifference", fn := fun _ => fun
  | [d1, d2] => { results := [.lit (.bool false)], args := [d1, d2] }
  | _ => none }
def FnSubMatchesIntegerDifferenceWrongFalsely : Prop := fnSubMatchesIntegerDifferenceRow.holds Try.pinned (OpenSpec.ofChange fnSubMatchesIntegerDifferenceWrong)

/- THE SECOND FORM. 'bulk': how many values and letters a reading holds, each counted each time it is reached (what is shared counts as often as it is met; a slice's spare places count too). A statement '..UptoSaid' is the law's where the arguments, and the package variables that the reading takes, are together of bulk at most 1048576: NARROWER than '..Said'. Prove '..Said' where nothing that the law and all that it calls make is longer than what came in: it says more and counts as full. Else prove '..UptoSaid'. A law counts once. -/
mutual
def uptoBulk {H : Type} : DataW H → Nat
  | .lit (.string bytes) => bytes.length + 1
  | .lit _ => 1
  | .nil => 1
  | .ptr d => uptoBulk d + 1
  | .slice elems spare => uptoBulkAll elems + uptoBulkAll spare + 1
  | .agg parts => uptoBulkAll parts + 1
  | .iface _ d => uptoBulk d + 1
  | .map entries => uptoBulkEntries entries + 1
  | .held _ => 1
def uptoBulkAll {H : Type} : List (DataW H) → Nat
  | [] => 0
  | d :: r => uptoBulk d + uptoBulkAll r
def uptoBulkEntries {H : Type} : List (Lit × DataW H) → Nat
  | [] => 0
  | x :: r => uptoBulkEntry x + uptoBulkEntries r
def uptoBulkEntry {H : Type} : Lit × DataW H → Nat
  | (.string bytes, d) => bytes.length + uptoBulk d + 1
  | (_, d) => uptoBulk d + 1
 end
def uptoSmall : (H : Type) → List (DataW H) → Bool := fun _ ds => decide (uptoBulkAll ds ≤ 1048576)
def OpenSpec.upto (s : _root_.Go.ChangeSpec) : _root_.Go.OpenSpec := { _root_.Go.OpenSpec.ofChange s with cond := some uptoSmall }

/-- 'n011_41.FnHashCombineShiftsWithHash', WHERE WHAT IT READS IS OF BULK AT MOST 1048576: true; the input reads as it did. -/
def fnHashCombineShiftsWithHashUptoRow : OpenClaim := { program := "ytkmpcipgagpeaaa", sum := "7e158b598a6a40f1cc97d944198fee42fac6e8c0ba09136d8f9765eafd43b9e5", func := "github.com/evanw/esbuild/n011_41.FnHashCombineShiftsWithHash", spec := "fnHashCombineShiftsWithHash", apart := false, narrowed := true }
def FnHashCombineShiftsWithHashUptoSaid : Prop := fnHashCombineShiftsWithHashUptoRow.holds Try.pinned (OpenSpec.upto fnHashCombineShiftsWithHashSpec)

/-- 'n011_43.FnMulCommutes', WHERE WHAT IT READS IS OF BULK AT MOST 1048576: true; the input reads as it did. -/
def fnMulCommutesUptoRow : OpenClaim := { program := "ytkmpcipgagpeaaa", sum := "7e158b598a6a40f1cc97d944198fee42fac6e8c0ba09136d8f9765eafd43b9e5", func := "github.com/evanw/esbuild/n011_43.FnMulCommutes", spec := "fnMulCommutes", apart := false, narrowed := true }
def FnMulCommutesUptoSaid : Prop := fnMulCommutesUptoRow.holds Try.pinned (OpenSpec.upto fnMulCommutesSpec)

/-- 'n011_51.FnNewF64KeepsOrder', WHERE WHAT IT READS IS OF BULK AT MOST 1048576: true; the input reads as it did. -/
def fnNewF64KeepsOrderUptoRow : OpenClaim := { program := "ytkmpcipgagpeaaa", sum := "7e158b598a6a40f1cc97d944198fee42fac6e8c0ba09136d8f9765eafd43b9e5", func := "github.com/evanw/esbuild/n011_51.FnNewF64KeepsOrder", spec := "fnNewF64KeepsOrder", apart := false, narrowed := true }
def FnNewF64KeepsOrderUptoSaid : Prop := fnNewF64KeepsOrderUptoRow.holds Try.pinned (OpenSpec.upto fnNewF64KeepsOrderSpec)

/-- 'n011_28.FnAddMatchesIntegerSum', WHERE WHAT IT READS IS OF BULK AT MOST 1048576: true; the input reads as it did. -/
def fnAddMatchesIntegerSumUptoRow : OpenClaim := { program := "ytkmpcipgagpeaaa", sum := "7e158b598a6a40f1cc97d944198fee42fac6e8c0ba09136d8f9765eafd43b9e5", func := "github.com/evanw/esbuild/n011_28.FnAddMatchesIntegerSum", spec := "fnAddMatchesIntegerSum", apart := false, narrowed := true }
def FnAddMatchesIntegerSumUptoSaid : Prop := fnAddMatchesIntegerSumUptoRow.holds Try.pinned (OpenSpec.upto fnAddMatchesIntegerSumSpec)

/-- 'n011_28.FnSubConstUndoesAddConst', WHERE WHAT IT READS IS OF BULK AT MOST 1048576: true; the input reads as it did. -/
def fnSubConstUndoesAddConstUptoRow : OpenClaim := { program := "ytkmpcipgagpeaaa", sum := "7e158b598a6a40f1cc97d944198fee42fac6e8c0ba09136d8f9765eafd43b9e5", func := "github.com/evanw/esbuild/n011_28.FnSubConstUndoesAddConst", spec := "fnSubConstUndoesAddConst", apart := false, narrowed := true }
def FnSubConstUndoesAddConstUptoSaid : Prop := fnSubConstUndoesAddConstUptoRow.holds Try.pinned (OpenSpec.upto fnSubConstUndoesAddConstSpec)

/-- 'n011_28.FnSubMatchesIntegerDifference', WHERE WHAT IT READS IS OF BULK AT MOST 1048576: true; the input reads as it did. -/
def fnSubMatchesIntegerDifferenceUptoRow : OpenClaim := { program := "ytkmpcipgagpeaaa", sum := "7e158b598a6a40f1cc97d944198fee42fac6e8c0ba09136d8f9765eafd43b9e5", func := "github.com/evanw/esbuild/n011_28.FnSubMatchesIntegerDifference", spec := "fnSubMatchesIntegerDifference", apart := false, narrowed := true }
def FnSubMatchesIntegerDifferenceUptoSaid : Prop := fnSubMatchesIntegerDifferenceUptoRow.holds Try.pinned (OpenSpec.upto fnSubMatchesIntegerDifferenceSpec)

end Rows
end Go.Proofs.Ytkmpcipgagpeaaa
