/-
  No cell of these rows narrows 'for every input' (looked for: loops, veiled, ifaces, maps, wideKeys, modest, calm, conditions, laid).
  DERIVED. THE GIVEN ROWS OF THIS SEAT. 2 by the template 'for every input the law returns true; each argument reads behind the call as it read before'; 0 by the template 'total and deterministic' (their statements: YtkdlfggghgchjaaTotals.lean).
  GIVEN WITH THE SEED: the statements are not yours to turn. If you find one false, say at which input.
  Laid BY PROGRAM, IN A SANDBOX (cutbox-rows.mjs): the forced cells as the released guide's own fill.sh prints them over the translation efd7d6a5589d7958… (all of the seat's roots in one cut). By AI agents, Wed Nov 11 2026. No macro, syntax, notation, axiom, sorry.
-/
import Derived.Test.YtkdlfggghgchjaaChecked
import GoSem.Claim
import GoSem.ClaimJoined
import GoSem.ClaimMapViews
import Derived.JoinedTies
import Derived.KernelRfl
namespace Go.Proofs.Ytkdlfggghgchjaa
/- THE CELL 'sum', in the pinned program and in every row, IS THE sha256 OF THE DUMP (.gsa) THAT YtkdlfggghgchjaaProg.lean LOADS. Nothing in Lean hashes anything: it is a label: what it is worth is what the hold of that sum in a sandbox is worth. -/
noncomputable def Try.pinned : Pinned := { name := "ytkdlfggghgchjaa", sum := "efd7d6a5589d79585c421852149eb157b3f04811871f746840ea2d0b10855943", checked := Try.checked }
namespace Rows
def none {H : Type} : Left H := { results := [], args := [] }

/-- 'n011_57.FnLog2TableAndOctaveBound': WHATEVER THE INPUT: true; the input reads as it did. -/
def fnLog2TableAndOctaveBoundSpec : ChangeSpec := { name := "fnLog2TableAndOctaveBound", fn := fun _ => fun
  | [d] => { results := [.lit (.bool true)], args := [d] }
  | _ => none }
def fnLog2TableAndOctaveBoundRow : OpenClaim := { program := "ytkdlfggghgchjaa", sum := "efd7d6a5589d79585c421852149eb157b3f04811871f746840ea2d0b10855943", func := "github.com/evanw/esbuild/n011_57.FnLog2TableAndOctaveBound", spec := "fnLog2TableAndOctaveBound", inPlace := ["math.Float64bits", "math.Float64frombits", "math.archLog"], apart := false }
def FnLog2TableAndOctaveBoundSaid : Prop := fnLog2TableAndOctaveBoundRow.holds Try.pinned (OpenSpec.ofChange fnLog2TableAndOctaveBoundSpec)

/-- ITS FALSE NEIGHBOUR: 'it returns false'. Refute it at one input. -/
def fnLog2TableAndOctaveBoundWrong : ChangeSpec := { name := "fnLog2TableAndOctaveBound", fn := fun _ => fun
  | [d] => { results := [.lit (.bool false)], args := [d] }
  | _ => none }
def FnLog2TableAndOctaveBoundWrongFalsely : Prop := fnLog2TableAndOctaveBoundRow.holds Try.pinned (OpenSpec.ofChange fnLog2TableAndOctaveBoundWrong)

/-- 'n011_157.FnAtan2OddInY': WHATEVER THE INPUT: true; the input reads as it did. -/
def fnAtan2OddInYSpec : ChangeSpec := { name := "fnAtan2OddInY", fn := fun _ => fun
  | [d1, d2] => { results := [.lit (.bool true)], args := [d1, d2] }
  | _ => none }
def fnAtan2OddInYRow : OpenClaim := { program := "ytkdlfggghgchjaa", sum := "efd7d6a5589d79585c421852149eb157b3f04811871f746840ea2d0b10855943", func := "github.com/evanw/esbuild/n011_157.FnAtan2OddInY", spec := "fnAtan2OddInY", inPlace := ["math.Float64frombits", "math.Float64bits"], apart := false }
def FnAtan2OddInYSaid : Prop := fnAtan2OddInYRow.holds Try.pinned (OpenSpec.ofChange fnAtan2OddInYSpec)

/-- ITS FALSE NEIGHBOUR: 'it returns false'. Refute it at one input. -/
def fnAtan2OddInYWrong : ChangeSpec := { name := "fnAtan2OddInY", fn := fun _ => fun
  | [d1, d2] => { results := [.lit (.bool false)], args := [d1, d2] }
  | _ => none }
def FnAtan2OddInYWrongFalsely : Prop := fnAtan2OddInYRow.holds Try.pinned (OpenSpec.ofChange fnAtan2OddInYWrong)

/- THE SECOND FORM. 'bulk': how many values and letters a reading holds, each counted each time it is reached (what is shared counts as often as it is met; a slice's spare places count too). A statement '..UptoSaid' is the law's where the arguments, and the package variables that the reading takes, are together of bulk at most 1048576: NARROWER than '..Said'. Prove '..Said' where nothing that the law and all that it calls make is longer than what came in: it says more and counts as full. Else prove '..UptoSaid'. A law counts once. -/
mutual
def uptoBulk {H : Type} : DataW H → Nat
  | .lit (.string bytes) => bytes.length + 1
  | .lit _ => 1
  | .nil => 1
  | .ptr d => uptoBulk d + 1
  | .slice elems spare => uptoBulkAll elems + uptoBulkAll spare + 1
  | .agg parts => uptoBulkAll parts + 1
  | .iface _ d => uptoBulk d + 1
  | .map entries => uptoBulkEntries entries + 1
  | .held _ => 1
def uptoBulkAll {H : Type} : List (DataW H) → Nat
  | [] => 0
  | d :: r => uptoBulk d + uptoBulkAll r
def uptoBulkEntries {H : Type} : List (Lit × DataW H) → Nat
  | [] => 0
  | x :: r => uptoBulkEntry x + uptoBulkEntries r
def uptoBulkEntry {H : Type} : Lit × DataW H → Nat
  | (.string bytes, d) => bytes.length + uptoBulk d + 1
  | (_, d) => uptoBulk d + 1
 end
def uptoSmall : (H : Type) → List (DataW H) → Bool := fun _ ds => decide (uptoBulkAll ds ≤ 1048576)
def OpenSpec.upto (s : _root_.Go.ChangeSpec) : _root_.Go.OpenSpec := { _root_.Go.OpenSpec.ofChange s with cond := some uptoSmall }

/-- 'n011_57.FnLog2TableAndOctaveBound', WHERE WHAT IT READS IS OF BULK AT MOST 1048576: true; the input reads as it did. -/
def fnLog2TableAndOctaveBoundUptoRow : OpenClaim := { program := "ytkdlfggghgchjaa", sum := "efd7d6a5589d79585c421852149eb157b3f04811871f746840ea2d0b10855943", func := "github.com/evanw/esbuild/n011_57.FnLog2TableAndOctaveBound", spec := "fnLog2TableAndOctaveBound", inPlace := ["math.Float64bits", "math.Float64frombits", "math.archLog"], apart := false, narrowed := true }
def FnLog2TableAndOctaveBoundUptoSaid : Prop := fnLog2TableAndOctaveBoundUptoRow.holds Try.pinned (OpenSpec.upto fnLog2TableAndOctaveBoundSpec)

/-- 'n011_157.FnAtan2OddInY', WHERE WHAT IT READS IS OF BULK AT MOST 1048576: true; the input reads as it did. -/
def fnAtan2OddInYUptoRow : OpenClaim := { program := "ytkdlfggghgchjaa", sum := "efd7d6a5589d79585c421852149eb157b3f04811871f746840ea2d0b10855943", func := "github.com/evanw/esbuild/n011_157.FnAtan2OddInY", spec := "fnAtan2OddInY", inPlace := ["math.Float64frombits", "math.Float64bits"], apart := false, narrowed := true }
def FnAtan2OddInYUptoSaid : Prop := fnAtan2OddInYUptoRow.holds Try.pinned (OpenSpec.upto fnAtan2OddInYSpec)

end Rows
end Go.Proofs.Ytkdlfggghgchjaa
