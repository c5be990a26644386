/-
  No cell of these rows narrows 'for every input' (looked for: loops, veiled, ifaces, maps, wideKeys, modest, calm, conditions, laid).
  DERIVED. THE GIVEN ROWS OF THIS SEAT. 1 by the template 'for every input the law returns true; each argument reads behind the call as it read before'; 0 by the template 'total and deterministic' (their statements: YtihcflebpgefbaaTotals.lean).
  GIVEN WITH THE SEED: the statements are not yours to turn. If you find one false, say at which input.
  Laid BY PROGRAM, IN A SANDBOX (cutbox-rows.mjs): the forced cells as the released guide's own fill.sh prints them over the translation 83bb89dcf423d067… (all of the seat's roots in one cut). By AI agents, Wed Nov 11 2026. No macro, syntax, notation, axiom, sorry.
-/
import Derived.Test.YtihcflebpgefbaaChecked
import GoSem.Claim
import GoSem.ClaimJoined
import GoSem.ClaimMapViews
import Derived.JoinedTies
import Derived.KernelRfl
namespace Go.Proofs.Ytihcflebpgefbaa
/- THE CELL 'sum', in the pinned program and in every row, IS THE sha256 OF THE DUMP (.gsa) THAT YtihcflebpgefbaaProg.lean LOADS. Nothing in Lean hashes anything: it is a label: what it is worth is what the hold of that sum in a sandbox is worth. -/
noncomputable def Try.pinned : Pinned := { name := "ytihcflebpgefbaa", sum := "83bb89dcf423d067a31c65fc5f8d37776548301b7fcbd58ee405d836cf26ce99", checked := Try.checked }
namespace Rows
def none {H : Type} : Left H := { results := [], args := [] }

/-- 'n011_153.FnDecodeWTF8RuneMatchesPrefixModel': WHATEVER THE INPUT: true; the input reads as it did. -/
def fnDecodeWTF8RuneMatchesPrefixModelSpec : ChangeSpec := { name := "fnDecodeWTF8RuneMatchesPrefixModel", fn := fun _ => fun
  | [d] => { results := [.lit (.bool true)], args := [d] }
  | _ => none }
def fnDecodeWTF8RuneMatchesPrefixModelRow : OpenClaim := { program := "ytihcflebpgefbaa", sum := "83bb89dcf423d067a31c65fc5f8d37776548301b7fcbd58ee405d836cf26ce99", func := "github.com/evanw/esbuild/n011_153.FnDecodeWTF8RuneMatchesPrefixModel", spec := "fnDecodeWTF8RuneMatchesPrefixModel", apart := false }
def FnDecodeWTF8RuneMatchesPrefixModelSaid : Prop := fnDecodeWTF8RuneMatchesPrefixModelRow.holds Try.pinned (OpenSpec.ofChange fnDecodeWTF8RuneMatchesPrefixModelSpec)

/-- ITS FALSE NEIGHBOUR: 'it returns false'. Refute it at one input. -/
def fnDecodeWTF8RuneMatchesPrefixModelWrong : ChangeSpec := { name := "fnDecodeWTF8RuneMatchesPrefixModel", fn := fun _ => fun
  | [d] => { results := [.lit (.bool false)], args := [d] }
  | _ => none }
def FnDecodeWTF8RuneMatchesPrefixModelWrongFalsely : Prop := fnDecodeWTF8RuneMatchesPrefixModelRow.holds Try.pinned (OpenSpec.ofChange fnDecodeWTF8RuneMatchesPrefixModelWrong)

/- THE SECOND FORM. 'bulk': how many values and letters a reading holds, each counted each time it is reached (what is shared counts as often as it is met; a slice's spare places count too). A statement '..UptoSaid' is the law's where the arguments, and the package variables that the reading takes, are together of bulk at most 1048576: NARROWER than '..Said'. Prove '..Said' where nothing that the law and all that it calls make is longer than what came in: it says more and counts as full. Else prove '..UptoSaid'. A law counts once. -/
mutual
def uptoBulk {H : Type} : DataW H → Nat
  | .lit (.string bytes) => bytes.length + 1
  | .lit _ => 1
  | .nil => 1
  | .ptr d => uptoBulk d + 1
  | .slice elems spare => uptoBulkAll elems + uptoBulkAll spare + 1
  | .agg parts => uptoBulkAll parts + 1
  | .iface _ d => uptoBulk d + 1
  | .map entries => uptoBulkEntries entries + 1
  | .held _ => 1
def uptoBulkAll {H : Type} : List (DataW H) → Nat
  | [] => 0
  | d :: r => uptoBulk d + uptoBulkAll r
def uptoBulkEntries {H : Type} : List (Lit × DataW H) → Nat
  | [] => 0
  | x :: r => uptoBulkEntry x + uptoBulkEntries r
def uptoBulkEntry {H : Type} : Lit × DataW H → Nat
  | (.string bytes, d) => bytes.length + uptoBulk d + 1
  | (_, d) => uptoBulk d + 1
 end
def uptoSmall : (H : Type) → List (DataW H) → Bool := fun _ ds => decide (uptoBulkAll ds ≤ 1048576)
def OpenSpec.upto (s : _root_.Go.ChangeSpec) : _root_.Go.OpenSpec := { _root_.Go.OpenSpec.ofChange s with cond := some uptoSmall }

/-- 'n011_153.FnDecodeWTF8RuneMatchesPrefixModel', WHERE WHAT IT READS IS OF BULK AT MOST 1048576: true; the input reads as it did. -/
def fnDecodeWTF8RuneMatchesPrefixModelUptoRow : OpenClaim := { program := "ytihcflebpgefbaa", sum := "83bb89dcf423d067a31c65fc5f8d37776548301b7fcbd58ee405d836cf26ce99", func := "github.com/evanw/esbuild/n011_153.FnDecodeWTF8RuneMatchesPrefixModel", spec := "fnDecodeWTF8RuneMatchesPrefixModel", apart := false, narrowed := true }
def FnDecodeWTF8RuneMatchesPrefixModelUptoSaid : Prop := fnDecodeWTF8RuneMatchesPrefixModelUptoRow.holds Try.pinned (OpenSpec.upto fnDecodeWTF8RuneMatchesPrefixModelSpec)

end Rows
end Go.Proofs.Ytihcflebpgefbaa
