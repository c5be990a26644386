/-
  No cell of these rows narrows 'for every input' (looked for: loops, veiled, ifaces, maps, wideKeys, modest, calm, conditions, laid).
  DERIVED. THE GIVEN ROWS OF THIS SEAT. 6 by the template 'for every input the law returns true; each argument reads behind the call as it read before'; 0 by the template 'total and deterministic' (their statements: YtbjbjhldigecmaaTotals.lean).
  GIVEN WITH THE SEED: the statements are not yours to turn. If you find one false, say at which input.
  Laid BY PROGRAM, IN A SANDBOX (cutbox-rows.mjs): the forced cells as the released guide's own fill.sh prints them over the translation 16186380f73f400b… (all of the seat's roots in one cut). By AI agents, Wed Nov 11 2026. No macro, syntax, notation, axiom, sorry.
-/
import Derived.Test.YtbjbjhldigecmaaChecked
import GoSem.Claim
import GoSem.ClaimJoined
import GoSem.ClaimMapViews
import Derived.JoinedTies
import Derived.KernelRfl
namespace Go.Proofs.Ytbjbjhldigecmaa
/- THE CELL 'sum', in the pinned program and in every row, IS THE sha256 OF THE DUMP (.gsa) THAT YtbjbjhldigecmaaProg.lean LOADS. Nothing in Lean hashes anything: it is a label: what it is worth is what the hold of that sum in a sandbox is worth. -/
noncomputable def Try.pinned : Pinned := { name := "ytbjbjhldigecmaa", sum := "16186380f73f400bdcb746480639954f54116f3574cf80d6245c654c3be69728", checked := Try.checked }
namespace Rows
def none {H : Type} : Left H := { results := [], args := [] }

/-- 'n011_57.FnFloorIsNegCeilOfNeg': WHATEVER THE INPUT: true; the input reads as it did. -/
def fnFloorIsNegCeilOfNegSpec : ChangeSpec := { name := "fnFloorIsNegCeilOfNeg", fn := fun _ => fun
  | [d] => { results := [.lit (.bool true)], args := [d] }
  | _ => none }
def fnFloorIsNegCeilOfNegRow : OpenClaim := { program := "ytbjbjhldigecmaa", sum := "16186380f73f400bdcb746480639954f54116f3574cf80d6245c654c3be69728", func := "github.com/evanw/esbuild/n011_57.FnFloorIsNegCeilOfNeg", spec := "fnFloorIsNegCeilOfNeg", inPlace := ["math.archFloor", "math.Float64bits", "math.Float64frombits", "math.archTrunc", "math.archCeil"], apart := false }
def FnFloorIsNegCeilOfNegSaid : Prop := fnFloorIsNegCeilOfNegRow.holds Try.pinned (OpenSpec.ofChange fnFloorIsNegCeilOfNegSpec)

/-- ITS FALSE NEIGHBOUR: 'it returns false'. Refute it at one input. -/
def fnFloorIsNegCeilOfNegWrong : ChangeSpec := { name := "fnFloorIsNegCeilOfNeg", fn := fun _ => fun
  | [d] => { results := [.lit (.bool false)], args := [d] }
  | _ => none }
def FnFloorIsNegCeilOfNegWrongFalsely : Prop := fnFloorIsNegCeilOfNegRow.holds Try.pinned (OpenSpec.ofChange fnFloorIsNegCeilOfNegWrong)

/-- 'n011_21.FnSquaredIsEvenAndNeverNegative': WHATEVER THE INPUT: true; the input reads as it did. -/
def fnSquaredIsEvenAndNeverNegativeSpec : ChangeSpec := { name := "fnSquaredIsEvenAndNeverNegative", fn := fun _ => fun
  | [d] => { results := [.lit (.bool true)], args := [d] }
  | _ => none }
def fnSquaredIsEvenAndNeverNegativeRow : OpenClaim := { program := "ytbjbjhldigecmaa", sum := "16186380f73f400bdcb746480639954f54116f3574cf80d6245c654c3be69728", func := "github.com/evanw/esbuild/n011_21.FnSquaredIsEvenAndNeverNegative", spec := "fnSquaredIsEvenAndNeverNegative", apart := false }
def FnSquaredIsEvenAndNeverNegativeSaid : Prop := fnSquaredIsEvenAndNeverNegativeRow.holds Try.pinned (OpenSpec.ofChange fnSquaredIsEvenAndNeverNegativeSpec)

/-- ITS FALSE NEIGHBOUR: 'it returns false'. Refute it at one input. -/
def fnSquaredIsEvenAndNeverNegativeWrong : ChangeSpec := { name := "fnSquaredIsEvenAndNeverNegative", fn := fun _ => fun
  | [d] => { results := [.lit (.bool false)], args := [d] }
  | _ => none }
def FnSquaredIsEvenAndNeverNegativeWrongFalsely : Prop := fnSquaredIsEvenAndNeverNegativeRow.holds Try.pinned (OpenSpec.ofChange fnSquaredIsEvenAndNeverNegativeWrong)

/-- 'n011_268.FnAbsCaseTable': WHATEVER THE INPUT: true; the input reads as it did. -/
def fnAbsCaseTableSpec : ChangeSpec := { name := "fnAbsCaseTable", fn := fun _ => fun
  | [d] => { results := [.lit (.bool true)], args := [d] }
  | _ => none }
def fnAbsCaseTableRow : OpenClaim := { program := "ytbjbjhldigecmaa", sum := "16186380f73f400bdcb746480639954f54116f3574cf80d6245c654c3be69728", func := "github.com/evanw/esbuild/n011_268.FnAbsCaseTable", spec := "fnAbsCaseTable", inPlace := ["math.Float64bits", "math.Float64frombits"], apart := false }
def FnAbsCaseTableSaid : Prop := fnAbsCaseTableRow.holds Try.pinned (OpenSpec.ofChange fnAbsCaseTableSpec)

/-- ITS FALSE NEIGHBOUR: 'it returns false'. Refute it at one input. -/
def fnAbsCaseTableWrong : ChangeSpec := { name := "fnAbsCaseTable", fn := fun _ => fun
  | [d] => { results := [.lit (.bool false)], args := [d] }
  | _ => none }
def FnAbsCaseTableWrongFalsely : Prop := fnAbsCaseTableRow.holds Try.pinned (OpenSpec.ofChange fnAbsCaseTableWrong)

/-- 'n011_195.FnMin2Exact': WHATEVER THE INPUT: true; the input reads as it did. -/
def fnMin2ExactSpec : ChangeSpec := { name := "fnMin2Exact", fn := fun _ => fun
  | [d1, d2] => { results := [.lit (.bool true)], args := [d1, d2] }
  | _ => none }
def fnMin2ExactRow : OpenClaim := { program := "ytbjbjhldigecmaa", sum := "16186380f73f400bdcb746480639954f54116f3574cf80d6245c654c3be69728", func := "github.com/evanw/esbuild/n011_195.FnMin2Exact", spec := "fnMin2Exact", inPlace := ["math.archMin", "math.Float64bits", "math.Float64frombits"], apart := false }
def FnMin2ExactSaid : Prop := fnMin2ExactRow.holds Try.pinned (OpenSpec.ofChange fnMin2ExactSpec)

/-- ITS FALSE NEIGHBOUR: 'it returns false'. Refute it at one input. -/
def fnMin2ExactWrong : ChangeSpec := { name := "fnMin2Exact", fn := fun _ => fun
  | [d1, d2] => { results := [.lit (.bool false)], args := [d1, d2] }
  | _ => none }
def FnMin2ExactWrongFalsely : Prop := fnMin2ExactRow.holds Try.pinned (OpenSpec.ofChange fnMin2ExactWrong)

/-- 'n011_195.FnMin3Exact': WHATEVER THE INPUT: true; the input reads as it did. -/
def fnMin3ExactSpec : ChangeSpec := { name := "fnMin3Exact", fn := fun _ => fun
  | [d1, d2, d3] => { results := [.lit (.bool true)], args := [d1, d2, d3] }
  | _ => none }
def fnMin3ExactRow : OpenClaim := { program := "ytbjbjhldigecmaa", sum := "16186380f73f400bdcb746480639954f54116f3574cf80d6245c654c3be69728", func := "github.com/evanw/esbuild/n011_195.FnMin3Exact", spec := "fnMin3Exact", inPlace := ["math.archMin", "math.Float64bits", "math.Float64frombits"], apart := false }
def FnMin3ExactSaid : Prop := fnMin3ExactRow.holds Try.pinned (OpenSpec.ofChange fnMin3ExactSpec)

/-- ITS FALSE NEIGHBOUR: 'it returns false'. Refute it at one input. -/
def fnMin3ExactWrong : ChangeSpec := { name := "fnMin3Exact", fn := fun _ => fun
  | [d1, d2, d3] => { results := [.lit (.bool false)], args := [d1, d2, d3] }
  | _ => none }
def FnMin3ExactWrongFalsely : Prop := fnMin3ExactRow.holds Try.pinned (OpenSpec.ofChange fnMin3ExactWrong)

/-- 'n011_21.FnSqrtCaseTable': WHATEVER THE INPUT: true; the input reads as it did. -/
def fnSqrtCaseTableSpec : ChangeSpec := { name := "fnSqrtCaseTable", fn := fun _ => fun
  | [d] => { results := [.lit (.bool true)], args := [d] }
  | _ => none }
def fnSqrtCaseTableRow : OpenClaim := { program := "ytbjbjhldigecmaa", sum := "16186380f73f400bdcb746480639954f54116f3574cf80d6245c654c3be69728", func := "github.com/evanw/esbuild/n011_21.FnSqrtCaseTable", spec := "fnSqrtCaseTable", inPlace := ["math.sqrt"], apart := false }
def FnSqrtCaseTableSaid : Prop := fnSqrtCaseTableRow.holds Try.pinned (OpenSpec.ofChange fnSqrtCaseTableSpec)

/-- ITS FALSE NEIGHBOUR: 'it returns false'. Refute it at one input. -/
def fnSqrtCaseTableWrong : ChangeSpec := { name := "fnSqrtCaseTable", fn := fun _ => fun
  | [d] => { results := [.lit (.bool false)], args := [d] }
  | _ => none }
def FnSqrtCaseTableWrongFalsely : Prop := fnSqrtCaseTableRow.holds Try.pinned (OpenSpec.ofChange fnSqrtCaseTableWrong)

/- THE SECOND FORM. 'bulk': how many values and letters a reading holds, each counted each time it is reached (what is shared counts as often as it is met; a slice's spare places count too). A statement '..UptoSaid' is the law's where the arguments, and the package variables that the reading takes, are together of bulk at most 1048576: NARROWER than '..Said'. Prove '..Said' where nothing that the law and all that it calls make is longer than what came in: it says more and counts as full. Else prove '..UptoSaid'. A law counts once. -/
mutual
def uptoBulk {H : Type} : DataW H → Nat
  | .lit (.string bytes) => bytes.length + 1
  | .lit _ => 1
  | .nil => 1
  | .ptr d => uptoBulk d + 1
  | .slice elems spare => uptoBulkAll elems + uptoBulkAll spare + 1
  | .agg parts => uptoBulkAll parts + 1
  | .iface _ d => uptoBulk d + 1
  | .map entries => uptoBulkEntries entries + 1
  | .held _ => 1
def uptoBulkAll {H : Type} : List (DataW H) → Nat
  | [] => 0
  | d :: r => uptoBulk d + uptoBulkAll r
def uptoBulkEntries {H : Type} : List (Lit × DataW H) → Nat
  | [] => 0
  | x :: r => uptoBulkEntry x + uptoBulkEntries r
def uptoBulkEntry {H : Type} : Lit × DataW H → Nat
  | (.string bytes, d) => bytes.length + uptoBulk d + 1
  | (_, d) => uptoBulk d + 1
 end
def uptoSmall : (H : Type) → List (DataW H) → Bool := fun _ ds => decide (uptoBulkAll ds ≤ 1048576)
def OpenSpec.upto (s : _root_.Go.ChangeSpec) : _root_.Go.OpenSpec := { _root_.Go.OpenSpec.ofChange s with cond := some uptoSmall }

/-- 'n011_57.FnFloorIsNegCeilOfNeg', WHERE WHAT IT READS IS OF BULK AT MOST 1048576: true; the input reads as it did. -/
def fnFloorIsNegCeilOfNegUptoRow : OpenClaim := { program := "ytbjbjhldigecmaa", sum := "16186380f73f400bdcb746480639954f54116f3574cf80d6245c654c3be69728", func := "github.com/evanw/esbuild/n011_57.FnFloorIsNegCeilOfNeg", spec := "fnFloorIsNegCeilOfNeg", inPlace := ["math.archFloor", "math.Float64bits", "math.Float64frombits", "math.archTrunc", "math.archCeil"], apart := false, narrowed := true }
def FnFloorIsNegCeilOfNegUptoSaid : Prop := fnFloorIsNegCeilOfNegUptoRow.holds Try.pinned (OpenSpec.upto fnFloorIsNegCeilOfNegSpec)

/-- 'n011_21.FnSquaredIsEvenAndNeverNegative', WHERE WHAT IT READS IS OF BULK AT MOST 1048576: true; the input reads as it did. -/
def fnSquaredIsEvenAndNeverNegativeUptoRow : OpenClaim := { program := "ytbjbjhldigecmaa", sum := "16186380f73f400bdcb746480639954f54116f3574cf80d6245c654c3be69728", func := "github.com/evanw/esbuild/n011_21.FnSquaredIsEvenAndNeverNegative", spec := "fnSquaredIsEvenAndNeverNegative", apart := false, narrowed := true }
def FnSquaredIsEvenAndNeverNegativeUptoSaid : Prop := fnSquaredIsEvenAndNeverNegativeUptoRow.holds Try.pinned (OpenSpec.upto fnSquaredIsEvenAndNeverNegativeSpec)

/-- 'n011_268.FnAbsCaseTable', WHERE WHAT IT READS IS OF BULK AT MOST 1048576: true; the input reads as it did. -/
def fnAbsCaseTableUptoRow : OpenClaim := { program := "ytbjbjhldigecmaa", sum := "16186380f73f400bdcb746480639954f54116f3574cf80d6245c654c3be69728", func := "github.com/evanw/esbuild/n011_268.FnAbsCaseTable", spec := "fnAbsCaseTable", inPlace := ["math.Float64bits", "math.Float64frombits"], apart := false, narrowed := true }
def FnAbsCaseTableUptoSaid : Prop := fnAbsCaseTableUptoRow.holds Try.pinned (OpenSpec.upto fnAbsCaseTableSpec)

/-- 'n011_195.FnMin2Exact', WHERE WHAT IT READS IS OF BULK AT MOST 1048576: true; the input reads as it did. -/
def fnMin2ExactUptoRow : OpenClaim := { program := "ytbjbjhldigecmaa", sum := "16186380f73f400bdcb746480639954f54116f3574cf80d6245c654c3be69728", func := "github.com/evanw/esbuild/n011_195.FnMin2Exact", spec := "fnMin2Exact", inPlace := ["math.archMin", "math.Float64bits", "math.Float64frombits"], apart := false, narrowed := true }
def FnMin2ExactUptoSaid : Prop := fnMin2ExactUptoRow.holds Try.pinned (OpenSpec.upto fnMin2ExactSpec)

/-- 'n011_195.FnMin3Exact', WHERE WHAT IT READS IS OF BULK AT MOST 1048576: true; the input reads as it did. -/
def fnMin3ExactUptoRow : OpenClaim := { program := "ytbjbjhldigecmaa", sum := "16186380f73f400bdcb746480639954f54116f3574cf80d6245c654c3be69728", func := "github.com/evanw/esbuild/n011_195.FnMin3Exact", spec := "fnMin3Exact", inPlace := ["math.archMin", "math.Float64bits", "math.Float64frombits"], apart := false, narrowed := true }
def FnMin3ExactUptoSaid : Prop := fnMin3ExactUptoRow.holds Try.pinned (OpenSpec.upto fnMin3ExactSpec)

/-- 'n011_21.FnSqrtCaseTable', WHERE WHAT IT READS IS OF BULK AT MOST 1048576: true; the input reads as it did. -/
def fnSqrtCaseTableUptoRow : OpenClaim := { program := "ytbjbjhldigecmaa", sum := "16186380f73f400bdcb746480639954f54116f3574cf80d6245c654c3be69728", func := "github.com/evanw/esbuild/n011_21.FnSqrtCaseTable", spec := "fnSqrtCaseTable", inPlace := ["math.sqrt"], apart := false, narrowed := true }
def FnSqrtCaseTableUptoSaid : Prop := fnSqrtCaseTableUptoRow.holds Try.pinned (OpenSpec.upto fnSqrtCaseTableSpec)

end Rows
end Go.Proofs.Ytbjbjhldigecmaa
