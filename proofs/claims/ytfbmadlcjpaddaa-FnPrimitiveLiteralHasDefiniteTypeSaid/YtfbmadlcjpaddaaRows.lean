/-
  No cell of these rows narrows 'for every input' (looked for: loops, veiled, ifaces, maps, wideKeys, modest, calm, conditions, laid).
  DERIVED. THE GIVEN ROWS OF THIS SEAT. 5 by the template 'for every input the law returns true; each argument reads behind the call as it read before'; 0 by the template 'total and deterministic' (their statements: YtfbmadlcjpaddaaTotals.lean).
  GIVEN WITH THE SEED: the statements are not yours to turn. If you find one false, say at which input.
  Laid BY PROGRAM, IN A SANDBOX (cutbox-rows.mjs): the forced cells as the released guide's own fill.sh prints them over the translation 149b0ee6de2629d1… (all of the seat's roots in one cut). By AI agents, Wed Nov 11 2026. No macro, syntax, notation, axiom, sorry.
-/
import Derived.Test.YtfbmadlcjpaddaaChecked
import GoSem.Claim
import GoSem.ClaimJoined
import GoSem.ClaimMapViews
import Derived.JoinedTies
import Derived.KernelRfl
namespace Go.Proofs.Ytfbmadlcjpaddaa
/- THE CELL 'sum', in the pinned program and in every row, IS THE sha256 OF THE DUMP (.gsa) THAT YtfbmadlcjpaddaaProg.lean LOADS. Nothing in Lean hashes anything: it is a label: what it is worth is what the hold of that sum in a sandbox is worth. -/
noncomputable def Try.pinned : Pinned := { name := "ytfbmadlcjpaddaa", sum := "149b0ee6de2629d15af2ea875a4717a038fcedd76ca7050d3e95ec9b1e73de8e", checked := Try.checked }
namespace Rows
def none {H : Type} : Left H := { results := [], args := [] }

/-- 'n011_35.FnIsPropertyAccessCaseTable': WHATEVER THE INPUT: true; the input reads as it did. -/
def fnIsPropertyAccessCaseTableSpec : ChangeSpec := { name := "fnIsPropertyAccessCaseTable", fn := fun _ => fun
  | [d1, d2, d3, d4, d5] => { results := [.lit (.bool true)], args := [d1, d2, d3, d4, d5] }
  | _ => none }
def fnIsPropertyAccessCaseTableRow : OpenClaim := { program := "ytfbmadlcjpaddaa", sum := "149b0ee6de2629d15af2ea875a4717a038fcedd76ca7050d3e95ec9b1e73de8e", func := "github.com/evanw/esbuild/n011_35.FnIsPropertyAccessCaseTable", spec := "fnIsPropertyAccessCaseTable", apart := false }
def FnIsPropertyAccessCaseTableSaid : Prop := fnIsPropertyAccessCaseTableRow.holds Try.pinned (OpenSpec.ofChange fnIsPropertyAccessCaseTableSpec)

/-- ITS FALSE NEIGHBOUR: 'it returns false'. Refute it at one input. -/
def fnIsPropertyAccessCaseTableWrong : ChangeSpec := { name := "fnIsPropertyAccessCaseTable", fn := fun _ => fun
  | [d1, d2, d3, d4, d5] => { results := [.lit (.bool false)], args := [d1, d2, d3, d4, d5] }
  | _ => none }
def FnIsPropertyAccessCaseTableWrongFalsely : Prop := fnIsPropertyAccessCaseTableRow.holds Try.pinned (OpenSpec.ofChange fnIsPropertyAccessCaseTableWrong)

/-- 'n011_35.FnAssignTypeIsRightTypeAtLeftLoc': WHATEVER THE INPUT: true; the input reads as it did. -/
def fnAssignTypeIsRightTypeAtLeftLocSpec : ChangeSpec := { name := "fnAssignTypeIsRightTypeAtLeftLoc", fn := fun _ => fun
  | [d1, d2, d3, d4, d5, d6, d7, d8, d9, d10] => { results := [.lit (.bool true)], args := [d1, d2, d3, d4, d5, d6, d7, d8, d9, d10] }
  | _ => none }
def fnAssignTypeIsRightTypeAtLeftLocRow : OpenClaim := { program := "ytfbmadlcjpaddaa", sum := "149b0ee6de2629d15af2ea875a4717a038fcedd76ca7050d3e95ec9b1e73de8e", func := "github.com/evanw/esbuild/n011_35.FnAssignTypeIsRightTypeAtLeftLoc", spec := "fnAssignTypeIsRightTypeAtLeftLoc", recurses := true, apart := false }
def FnAssignTypeIsRightTypeAtLeftLocSaid : Prop := fnAssignTypeIsRightTypeAtLeftLocRow.holds Try.pinned (OpenSpec.ofChange fnAssignTypeIsRightTypeAtLeftLocSpec)

/-- ITS FALSE NEIGHBOUR: 'it returns false'. Refute it at one input. -/
def fnAssignTypeIsRightTypeAtLeftLocWrong : ChangeSpec := { name := "fnAssignTypeIsRightTypeAtLeftLoc", fn := fun _ => fun
  | [d1, d2, d3, d4, d5, d6, d7, d8, d9, d10] => { results := [.lit (.bool false)], args := [d1, d2, d3, d4, d5, d6, d7, d8, d9, d10] }
  | _ => none }
def FnAssignTypeIsRightTypeAtLeftLocWrongFalsely : Prop := fnAssignTypeIsRightTypeAtLeftLocRow.holds Try.pinned (OpenSpec.ofChange fnAssignTypeIsRightTypeAtLeftLocWrong)

/-- 'n011_37.FnPrimitiveLiteralHasDefiniteType': WHATEVER THE INPUT: true; the input reads as it did. -/
def fnPrimitiveLiteralHasDefiniteTypeSpec : ChangeSpec := { name := "fnPrimitiveLiteralHasDefiniteType", fn := fun _ => fun
  | [d] => { results := [.lit (.bool true)], args := [d] }
  | _ => none }
def fnPrimitiveLiteralHasDefiniteTypeRow : OpenClaim := { program := "ytfbmadlcjpaddaa", sum := "149b0ee6de2629d15af2ea875a4717a038fcedd76ca7050d3e95ec9b1e73de8e", func := "github.com/evanw/esbuild/n011_37.FnPrimitiveLiteralHasDefiniteType", spec := "fnPrimitiveLiteralHasDefiniteType", recurses := true, apart := false }
def FnPrimitiveLiteralHasDefiniteTypeSaid : Prop := fnPrimitiveLiteralHasDefiniteTypeRow.holds Try.pinned (OpenSpec.ofChange fnPrimitiveLiteralHasDefiniteTypeSpec)

/-- ITS FALSE NEIGHBOUR: 'it returns false'. Refute it at one input. -/
def fnPrimitiveLiteralHasDefiniteTypeWrong : ChangeSpec := { name := "fnPrimitiveLiteralHasDefiniteType", fn := fun _ => fun
  | [d] => { results := [.lit (.bool false)], args := [d] }
  | _ => none }
def FnPrimitiveLiteralHasDefiniteTypeWrongFalsely : Prop := fnPrimitiveLiteralHasDefiniteTypeRow.holds Try.pinned (OpenSpec.ofChange fnPrimitiveLiteralHasDefiniteTypeWrong)

/-- 'n011_90.FnIsBinaryNullAndUndefinedOrderFree': WHATEVER THE INPUT: true; the input reads as it did. -/
def fnIsBinaryNullAndUndefinedOrderFreeSpec : ChangeSpec := { name := "fnIsBinaryNullAndUndefinedOrderFree", fn := fun _ => fun
  | [d1, d2, d3, d4, d5, d6, d7, d8, d9, d10, d11] => { results := [.lit (.bool true)], args := [d1, d2, d3, d4, d5, d6, d7, d8, d9, d10, d11] }
  | _ => none }
def fnIsBinaryNullAndUndefinedOrderFreeRow : OpenClaim := { program := "ytfbmadlcjpaddaa", sum := "149b0ee6de2629d15af2ea875a4717a038fcedd76ca7050d3e95ec9b1e73de8e", func := "github.com/evanw/esbuild/n011_90.FnIsBinaryNullAndUndefinedOrderFree", spec := "fnIsBinaryNullAndUndefinedOrderFree", apart := false }
def FnIsBinaryNullAndUndefinedOrderFreeSaid : Prop := fnIsBinaryNullAndUndefinedOrderFreeRow.holds Try.pinned (OpenSpec.ofChange fnIsBinaryNullAndUndefinedOrderFreeSpec)

/-- ITS FALSE NEIGHBOUR: 'it returns false'. Refute it at one input. -/
def fnIsBinaryNullAndUndefinedOrderFreeWrong : ChangeSpec := { name := "fnIsBinaryNullAndUndefinedOrderFree", fn := fun _ => fun
  | [d1, d2, d3, d4, d5, d6, d7, d8, d9, d10, d11] => { results := [.lit (.bool false)], args := [d1, d2, d3, d4, d5, d6, d7, d8, d9, d10, d11] }
  | _ => none }
def FnIsBinaryNullAndUndefinedOrderFreeWrongFalsely : Prop := fnIsBinaryNullAndUndefinedOrderFreeRow.holds Try.pinned (OpenSpec.ofChange fnIsBinaryNullAndUndefinedOrderFreeWrong)

/-- 'n011_46.FnNotThriceIsOnce': WHATEVER THE INPUT: true; the input reads as it did. -/
def fnNotThriceIsOnceSpec : ChangeSpec := { name := "fnNotThriceIsOnce", fn := fun _ => fun
  | [d1, d2, d3, d4, d5, d6] => { results := [.lit (.bool true)], args := [d1, d2, d3, d4, d5, d6] }
  | _ => none }
def fnNotThriceIsOnceRow : OpenClaim := { program := "ytfbmadlcjpaddaa", sum := "149b0ee6de2629d15af2ea875a4717a038fcedd76ca7050d3e95ec9b1e73de8e", func := "github.com/evanw/esbuild/n011_46.FnNotThriceIsOnce", spec := "fnNotThriceIsOnce", recurses := true, apart := false }
def FnNotThriceIsOnceSaid : Prop := fnNotThriceIsOnceRow.holds Try.pinned (OpenSpec.ofChange fnNotThriceIsOnceSpec)

/-- ITS FALSE NEIGHBOUR: 'it returns false'. Refute it at one input. -/
def fnNotThriceIsOnceWrong : ChangeSpec := { name := "fnNotThriceIsOnce", fn := fun _ => fun
  | [d1, d2, d3, d4, d5, d6] => { results := [.lit (.bool false)], args := [d1, d2, d3, d4, d5, d6] }
  | _ => none }
def FnNotThriceIsOnceWrongFalsely : Prop := fnNotThriceIsOnceRow.holds Try.pinned (OpenSpec.ofChange fnNotThriceIsOnceWrong)

/- THE SECOND FORM. 'bulk': how many values and letters a reading holds, each counted each time it is reached (what is shared counts as often as it is met; a slice's spare places count too). A statement '..UptoSaid' is the law's where the arguments, and the package variables that the reading takes, are together of bulk at most 1048576: NARROWER than '..Said'. Prove '..Said' where nothing that the law and all that it calls make is longer than what came in: it says more and counts as full. Else prove '..UptoSaid'. A law counts once. -/
mutual
def uptoBulk {H : Type} : DataW H → Nat
  | .lit (.string bytes) => bytes.length + 1
  | .lit _ => 1
  | .nil => 1
  | .ptr d => uptoBulk d + 1
  | .slice elems spare => uptoBulkAll elems + uptoBulkAll spare + 1
  | .agg parts => uptoBulkAll parts + 1
  | .iface _ d => uptoBulk d + 1
  | .map entries => uptoBulkEntries entries + 1
  | .held _ => 1
def uptoBulkAll {H : Type} : List (DataW H) → Nat
  | [] => 0
  | d :: r => uptoBulk d + uptoBulkAll r
def uptoBulkEntries {H : Type} : List (Lit × DataW H) → Nat
  | [] => 0
  | x :: r => uptoBulkEntry x + uptoBulkEntries r
def uptoBulkEntry {H : Type} : Lit × DataW H → Nat
  | (.string bytes, d) => bytes.length + uptoBulk d + 1
  | (_, d) => uptoBulk d + 1
 end
def uptoSmall : (H : Type) → List (DataW H) → Bool := fun _ ds => decide (uptoBulkAll ds ≤ 1048576)
def OpenSpec.upto (s : _root_.Go.ChangeSpec) : _root_.Go.OpenSpec := { _root_.Go.OpenSpec.ofChange s with cond := some uptoSmall }

/-- 'n011_35.FnIsPropertyAccessCaseTable', WHERE WHAT IT READS IS OF BULK AT MOST 1048576: true; the input reads as it did. -/
def fnIsPropertyAccessCaseTableUptoRow : OpenClaim := { program := "ytfbmadlcjpaddaa", sum := "149b0ee6de2629d15af2ea875a4717a038fcedd76ca7050d3e95ec9b1e73de8e", func := "github.com/evanw/esbuild/n011_35.FnIsPropertyAccessCaseTable", spec := "fnIsPropertyAccessCaseTable", apart := false, narrowed := true }
def FnIsPropertyAccessCaseTableUptoSaid : Prop := fnIsPropertyAccessCaseTableUptoRow.holds Try.pinned (OpenSpec.upto fnIsPropertyAccessCaseTableSpec)

/-- 'n011_35.FnAssignTypeIsRightTypeAtLeftLoc', WHERE WHAT IT READS IS OF BULK AT MOST 1048576: true; the input reads as it did. -/
def fnAssignTypeIsRightTypeAtLeftLocUptoRow : OpenClaim := { program := "ytfbmadlcjpaddaa", sum := "149b0ee6de2629d15af2ea875a4717a038fcedd76ca7050d3e95ec9b1e73de8e", func := "github.com/evanw/esbuild/n011_35.FnAssignTypeIsRightTypeAtLeftLoc", spec := "fnAssignTypeIsRightTypeAtLeftLoc", recurses := true, apart := false, narrowed := true }
def FnAssignTypeIsRightTypeAtLeftLocUptoSaid : Prop := fnAssignTypeIsRightTypeAtLeftLocUptoRow.holds Try.pinned (OpenSpec.upto fnAssignTypeIsRightTypeAtLeftLocSpec)

/-- 'n011_37.FnPrimitiveLiteralHasDefiniteType', WHERE WHAT IT READS IS OF BULK AT MOST 1048576: true; the input reads as it did. -/
def fnPrimitiveLiteralHasDefiniteTypeUptoRow : OpenClaim := { program := "ytfbmadlcjpaddaa", sum := "149b0ee6de2629d15af2ea875a4717a038fcedd76ca7050d3e95ec9b1e73de8e", func := "github.com/evanw/esbuild/n011_37.FnPrimitiveLiteralHasDefiniteType", spec := "fnPrimitiveLiteralHasDefiniteType", recurses := true, apart := false, narrowed := true }
def FnPrimitiveLiteralHasDefiniteTypeUptoSaid : Prop := fnPrimitiveLiteralHasDefiniteTypeUptoRow.holds Try.pinned (OpenSpec.upto fnPrimitiveLiteralHasDefiniteTypeSpec)

/-- 'n011_90.FnIsBinaryNullAndUndefinedOrderFree', WHERE WHAT IT READS IS OF BULK AT MOST 1048576: true; the input reads as it did. -/
def fnIsBinaryNullAndUndefinedOrderFreeUptoRow : OpenClaim := { program := "ytfbmadlcjpaddaa", sum := "149b0ee6de2629d15af2ea875a4717a038fcedd76ca7050d3e95ec9b1e73de8e", func := "github.com/evanw/esbuild/n011_90.FnIsBinaryNullAndUndefinedOrderFree", spec := "fnIsBinaryNullAndUndefinedOrderFree", apart := false, narrowed := true }
def FnIsBinaryNullAndUndefinedOrderFreeUptoSaid : Prop := fnIsBinaryNullAndUndefinedOrderFreeUptoRow.holds Try.pinned (OpenSpec.upto fnIsBinaryNullAndUndefinedOrderFreeSpec)

/-- 'n011_46.FnNotThriceIsOnce', WHERE WHAT IT READS IS OF BULK AT MOST 1048576: true; the input reads as it did. -/
def fnNotThriceIsOnceUptoRow : OpenClaim := { program := "ytfbmadlcjpaddaa", sum := "149b0ee6de2629d15af2ea875a4717a038fcedd76ca7050d3e95ec9b1e73de8e", func := "github.com/evanw/esbuild/n011_46.FnNotThriceIsOnce", spec := "fnNotThriceIsOnce", recurses := true, apart := false, narrowed := true }
def FnNotThriceIsOnceUptoSaid : Prop := fnNotThriceIsOnceUptoRow.holds Try.pinned (OpenSpec.upto fnNotThriceIsOnceSpec)

end Rows
end Go.Proofs.Ytfbmadlcjpaddaa
