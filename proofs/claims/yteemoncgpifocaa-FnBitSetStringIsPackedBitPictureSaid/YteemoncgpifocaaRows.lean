/-
  No cell of these rows narrows 'for every input' (looked for: loops, veiled, ifaces, maps, wideKeys, modest, calm, conditions, laid).
  DERIVED. THE GIVEN ROWS OF THIS SEAT. 3 by the template 'for every input the law returns true; each argument reads behind the call as it read before'; 0 by the template 'total and deterministic' (their statements: YteemoncgpifocaaTotals.lean).
  GIVEN WITH THE SEED: the statements are not yours to turn. If you find one false, say at which input.
  Laid BY PROGRAM, IN A SANDBOX (cutbox-rows.mjs): the forced cells as the released guide's own fill.sh prints them over the translation 134a46d21cad1cea… (all of the seat's roots in one cut). By AI agents, Wed Nov 11 2026. No macro, syntax, notation, axiom, sorry.
-/
import Derived.Test.YteemoncgpifocaaChecked
import GoSem.Claim
import GoSem.ClaimJoined
import GoSem.ClaimMapViews
import Derived.JoinedTies
import Derived.KernelRfl
namespace Go.Proofs.Yteemoncgpifocaa
/- THE CELL 'sum', in the pinned program and in every row, IS THE sha256 OF THE DUMP (.gsa) THAT YteemoncgpifocaaProg.lean LOADS. Nothing in Lean hashes anything: it is a label: what it is worth is what the hold of that sum in a sandbox is worth. -/
noncomputable def Try.pinned : Pinned := { name := "yteemoncgpifocaa", sum := "134a46d21cad1cea75d3e286f79877dc5b38797cbc9e2594c293320ca9e529a3", checked := Try.checked }
namespace Rows
def none {H : Type} : Left H := { results := [], args := [] }

/-- 'n011_59.FnBitSetMatchesBoolModel': WHATEVER THE INPUT: true; the input reads as it did. -/
def fnBitSetMatchesBoolModelSpec : ChangeSpec := { name := "fnBitSetMatchesBoolModel", fn := fun _ => fun
  | [d1, d2] => { results := [.lit (.bool true)], args := [d1, d2] }
  | _ => none }
def fnBitSetMatchesBoolModelRow : OpenClaim := { program := "yteemoncgpifocaa", sum := "134a46d21cad1cea75d3e286f79877dc5b38797cbc9e2594c293320ca9e529a3", func := "github.com/evanw/esbuild/n011_59.FnBitSetMatchesBoolModel", spec := "fnBitSetMatchesBoolModel", apart := false }
def FnBitSetMatchesBoolModelSaid : Prop := fnBitSetMatchesBoolModelRow.holds Try.pinned (OpenSpec.ofChange fnBitSetMatchesBoolModelSpec)

/-- ITS FALSE NEIGHBOUR: 'it returns false'. Refute it at one input. -/
def fnBitSetMatchesBoolModelWrong : ChangeSpec := { name := "fnBitSetMatchesBoolModel", fn := fun _ => fun
  | [d1, d2] => { results := [.lit (.bool false)], args := [d1, d2] }
  | _ => none }
def FnBitSetMatchesBoolModelWrongFalsely : Prop := fnBitSetMatchesBoolModelRow.holds Try.pinned (OpenSpec.ofChange fnBitSetMatchesBoolModelWrong)

/-- 'n011_59.FnBitSetEqualsDetectsOneBit': WHATEVER THE INPUT: true; the input reads as it did. -/
def fnBitSetEqualsDetectsOneBitSpec : ChangeSpec := { name := "fnBitSetEqualsDetectsOneBit", fn := fun _ => fun
  | [d1, d2, d3] => { results := [.lit (.bool true)], args := [d1, d2, d3] }
  | _ => none }
def fnBitSetEqualsDetectsOneBitRow : OpenClaim := { program := "yteemoncgpifocaa", sum := "134a46d21cad1cea75d3e286f79877dc5b38797cbc9e2594c293320ca9e529a3", func := "github.com/evanw/esbuild/n011_59.FnBitSetEqualsDetectsOneBit", spec := "fnBitSetEqualsDetectsOneBit", apart := false }
def FnBitSetEqualsDetectsOneBitSaid : Prop := fnBitSetEqualsDetectsOneBitRow.holds Try.pinned (OpenSpec.ofChange fnBitSetEqualsDetectsOneBitSpec)

/-- ITS FALSE NEIGHBOUR: 'it returns false'. Refute it at one input. -/
def fnBitSetEqualsDetectsOneBitWrong : ChangeSpec := { name := "fnBitSetEqualsDetectsOneBit", fn := fun _ => fun
  | [d1, d2, d3] => { results := [.lit (.bool false)], args := [d1, d2, d3] }
  | _ => none }
def FnBitSetEqualsDetectsOneBitWrongFalsely : Prop := fnBitSetEqualsDetectsOneBitRow.holds Try.pinned (OpenSpec.ofChange fnBitSetEqualsDetectsOneBitWrong)

/-- 'n011_81.FnBitSetStringIsPackedBitPicture': WHATEVER THE INPUT: true; the input reads as it did. -/
def fnBitSetStringIsPackedBitPictureSpec : ChangeSpec := { name := "fnBitSetStringIsPackedBitPicture", fn := fun _ => fun
  | [d1, d2] => { results := [.lit (.bool true)], args := [d1, d2] }
  | _ => none }
def fnBitSetStringIsPackedBitPictureRow : OpenClaim := { program := "yteemoncgpifocaa", sum := "134a46d21cad1cea75d3e286f79877dc5b38797cbc9e2594c293320ca9e529a3", func := "github.com/evanw/esbuild/n011_81.FnBitSetStringIsPackedBitPicture", spec := "fnBitSetStringIsPackedBitPicture", apart := false }
def FnBitSetStringIsPackedBitPictureSaid : Prop := fnBitSetStringIsPackedBitPictureRow.holds Try.pinned (OpenSpec.ofChange fnBitSetStringIsPackedBitPictureSpec)

/-- ITS FALSE NEIGHBOUR: 'it returns false'. Refute it at one input. -/
def fnBitSetStringIsPackedBitPictureWrong : ChangeSpec := { name := "fnBitSetStringIsPackedBitPicture", fn := fun _ => fun
  | [d1, d2] => { results := [.lit (.bool false)], args := [d1, d2] }
  | _ => none }
def FnBitSetStringIsPackedBitPictureWrongFalsely : Prop := fnBitSetStringIsPackedBitPictureRow.holds Try.pinned (OpenSpec.ofChange fnBitSetStringIsPackedBitPictureWrong)

/- THE SECOND FORM. 'bulk': how many values and letters a reading holds, each counted each time it is reached (what is shared counts as often as it is met; a slice's spare places count too). A statement '..UptoSaid' is the law's where the arguments, and the package variables that the reading takes, are together of bulk at most 1048576: NARROWER than '..Said'. Prove '..Said' where nothing that the law and all that it calls make is longer than what came in: it says more and counts as full. Else prove '..UptoSaid'. A law counts once. -/
mutual
def uptoBulk {H : Type} : DataW H → Nat
  | .lit (.string bytes) => bytes.length + 1
  | .lit _ => 1
  | .nil => 1
  | .ptr d => uptoBulk d + 1
  | .slice elems spare => uptoBulkAll elems + uptoBulkAll spare + 1
  | .agg parts => uptoBulkAll parts + 1
  | .iface _ d => uptoBulk d + 1
  | .map entries => uptoBulkEntries entries + 1
  | .held _ => 1
def uptoBulkAll {H : Type} : List (DataW H) → Nat
  | [] => 0
  | d :: r => uptoBulk d + uptoBulkAll r
def uptoBulkEntries {H : Type} : List (Lit × DataW H) → Nat
  | [] => 0
  | x :: r => uptoBulkEntry x + uptoBulkEntries r
def uptoBulkEntry {H : Type} : Lit × DataW H → Nat
  | (.string bytes, d) => bytes.length + uptoBulk d + 1
  | (_, d) => uptoBulk d + 1
 end
def uptoSmall : (H : Type) → List (DataW H) → Bool := fun _ ds => decide (uptoBulkAll ds ≤ 1048576)
def OpenSpec.upto (s : _root_.Go.ChangeSpec) : _root_.Go.OpenSpec := { _root_.Go.OpenSpec.ofChange s with cond := some uptoSmall }

/-- 'n011_59.FnBitSetMatchesBoolModel', WHERE WHAT IT READS IS OF BULK AT MOST 1048576: true; the input reads as it did. -/
def fnBitSetMatchesBoolModelUptoRow : OpenClaim := { program := "yteemoncgpifocaa", sum := "134a46d21cad1cea75d3e286f79877dc5b38797cbc9e2594c293320ca9e529a3", func := "github.com/evanw/esbuild/n011_59.FnBitSetMatchesBoolModel", spec := "fnBitSetMatchesBoolModel", apart := false, narrowed := true }
def FnBitSetMatchesBoolModelUptoSaid : Prop := fnBitSetMatchesBoolModelUptoRow.holds Try.pinned (OpenSpec.upto fnBitSetMatchesBoolModelSpec)

/-- 'n011_59.FnBitSetEqualsDetectsOneBit', WHERE WHAT IT READS IS OF BULK AT MOST 1048576: true; the input reads as it did. -/
def fnBitSetEqualsDetectsOneBitUptoRow : OpenClaim := { program := "yteemoncgpifocaa", sum := "134a46d21cad1cea75d3e286f79877dc5b38797cbc9e2594c293320ca9e529a3", func := "github.com/evanw/esbuild/n011_59.FnBitSetEqualsDetectsOneBit", spec := "fnBitSetEqualsDetectsOneBit", apart := false, narrowed := true }
def FnBitSetEqualsDetectsOneBitUptoSaid : Prop := fnBitSetEqualsDetectsOneBitUptoRow.holds Try.pinned (OpenSpec.upto fnBitSetEqualsDetectsOneBitSpec)

/-- 'n011_81.FnBitSetStringIsPackedBitPicture', WHERE WHAT IT READS IS OF BULK AT MOST 1048576: true; the input reads as it did. -/
def fnBitSetStringIsPackedBitPictureUptoRow : OpenClaim := { program := "yteemoncgpifocaa", sum := "134a46d21cad1cea75d3e286f79877dc5b38797cbc9e2594c293320ca9e529a3", func := "github.com/evanw/esbuild/n011_81.FnBitSetStringIsPackedBitPicture", spec := "fnBitSetStringIsPackedBitPicture", apart := false, narrowed := true }
def FnBitSetStringIsPackedBitPictureUptoSaid : Prop := fnBitSetStringIsPackedBitPictureUptoRow.holds Try.pinned (OpenSpec.upto fnBitSetStringIsPackedBitPictureSpec)

end Rows
end Go.Proofs.Yteemoncgpifocaa
