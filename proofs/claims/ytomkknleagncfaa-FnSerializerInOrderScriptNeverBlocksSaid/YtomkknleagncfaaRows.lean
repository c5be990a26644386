/-
  No cell of these rows narrows 'for every input' (looked for: loops, veiled, ifaces, maps, wideKeys, modest, calm, conditions, laid).
  DERIVED. THE GIVEN ROWS OF THIS SEAT. 3 by the template 'for every input the law returns true; each argument reads behind the call as it read before'; 0 by the template 'total and deterministic' (their statements: YtomkknleagncfaaTotals.lean).
  GIVEN WITH THE SEED: the statements are not yours to turn. If you find one false, say at which input.
  Laid BY PROGRAM, IN A SANDBOX (cutbox-rows.mjs): the forced cells as the released guide's own fill.sh prints them over the translation 6ce68258dd9c9dfd… (all of the seat's roots in one cut). By AI agents, Wed Nov 11 2026. No macro, syntax, notation, axiom, sorry.
-/
import Derived.Test.YtomkknleagncfaaChecked
import GoSem.Claim
import GoSem.ClaimJoined
import GoSem.ClaimMapViews
import Derived.JoinedTies
import Derived.KernelRfl
namespace Go.Proofs.Ytomkknleagncfaa
/- THE CELL 'sum', in the pinned program and in every row, IS THE sha256 OF THE DUMP (.gsa) THAT YtomkknleagncfaaProg.lean LOADS. Nothing in Lean hashes anything: it is a label: what it is worth is what the hold of that sum in a sandbox is worth. -/
noncomputable def Try.pinned : Pinned := { name := "ytomkknleagncfaa", sum := "6ce68258dd9c9dfd2253ad9a83b9d32c652748ca5eacde33ebfba98233cca7f4", checked := Try.checked }
namespace Rows
def none {H : Type} : Left H := { results := [], args := [] }

/-- 'n011_17.FnAddThenUndoRestores': WHATEVER THE INPUT: true; the input reads as it did. -/
def fnAddThenUndoRestoresSpec : ChangeSpec := { name := "fnAddThenUndoRestores", fn := fun _ => fun
  | [d1, d2] => { results := [.lit (.bool true)], args := [d1, d2] }
  | _ => none }
def fnAddThenUndoRestoresRow : OpenClaim := { program := "ytomkknleagncfaa", sum := "6ce68258dd9c9dfd2253ad9a83b9d32c652748ca5eacde33ebfba98233cca7f4", func := "github.com/evanw/esbuild/n011_17.FnAddThenUndoRestores", spec := "fnAddThenUndoRestores", inPlace := ["sync/atomic.AddInt32"], apart := false }
def FnAddThenUndoRestoresSaid : Prop := fnAddThenUndoRestoresRow.holds Try.pinned (OpenSpec.ofChange fnAddThenUndoRestoresSpec)

/-- ITS FALSE NEIGHBOUR: 'it returns false'. Refute it at one input. -/
def fnAddThenUndoRestoresWrong : ChangeSpec := { name := "fnAddThenUndoRestores", fn := fun _ => fun
  | [d1, d2] => { results := [.lit (.bool false)], args := [d1, d2] }
  | _ => none }
def FnAddThenUndoRestoresWrongFalsely : Prop := fnAddThenUndoRestoresRow.holds Try.pinned (OpenSpec.ofChange fnAddThenUndoRestoresWrong)

/-- 'n011_17.FnWaitRoundsReuse': WHATEVER THE INPUT: true; the input reads as it did. -/
def fnWaitRoundsReuseSpec : ChangeSpec := { name := "fnWaitRoundsReuse", fn := fun _ => fun
  | [d] => { results := [.lit (.bool true)], args := [d] }
  | _ => none }
def fnWaitRoundsReuseRow : OpenClaim := { program := "ytomkknleagncfaa", sum := "6ce68258dd9c9dfd2253ad9a83b9d32c652748ca5eacde33ebfba98233cca7f4", func := "github.com/evanw/esbuild/n011_17.FnWaitRoundsReuse", spec := "fnWaitRoundsReuse", inPlace := ["sync/atomic.AddInt32"], apart := false }
def FnWaitRoundsReuseSaid : Prop := fnWaitRoundsReuseRow.holds Try.pinned (OpenSpec.ofChange fnWaitRoundsReuseSpec)

/-- ITS FALSE NEIGHBOUR: 'it returns false'. Refute it at one input. -/
def fnWaitRoundsReuseWrong : ChangeSpec := { name := "fnWaitRoundsReuse", fn := fun _ => fun
  | [d] => { results := [.lit (.bool false)], args := [d] }
  | _ => none }
def FnWaitRoundsReuseWrongFalsely : Prop := fnWaitRoundsReuseRow.holds Try.pinned (OpenSpec.ofChange fnWaitRoundsReuseWrong)

/-- 'n011_155.FnSerializerInOrderScriptNeverBlocks': WHATEVER THE INPUT: true; the input reads as it did. -/
def fnSerializerInOrderScriptNeverBlocksSpec : ChangeSpec := { name := "fnSerializerInOrderScriptNeverBlocks", fn := fun _ => fun
  | [d] => { results := [.lit (.bool true)], args := [d] }
  | _ => none }
def fnSerializerInOrderScriptNeverBlocksRow : OpenClaim := { program := "ytomkknleagncfaa", sum := "6ce68258dd9c9dfd2253ad9a83b9d32c652748ca5eacde33ebfba98233cca7f4", func := "github.com/evanw/esbuild/n011_155.FnSerializerInOrderScriptNeverBlocks", spec := "fnSerializerInOrderScriptNeverBlocks", inPlace := ["(*sync.WaitGroup).Add", "internal/race.ReleaseMerge", "internal/race.Disable", "internal/race.Enable", "internal/synctest.IsInBubble", "internal/synctest.Associate[sync.WaitGroup]", "sync.fatal", "sync/atomic.OrUint64", "sync/atomic.AddUint64", "internal/race.Read", "sync/atomic.LoadUint64", "sync/atomic.StoreUint64", "internal/synctest.Disassociate[sync.WaitGroup]", "sync.runtime_Semrelease", "(*sync.WaitGroup).Wait", "internal/race.Acquire", "internal/synctest.IsAssociated[sync.WaitGroup]", "sync/atomic.CompareAndSwapUint64", "internal/race.Write", "sync.runtime_SemacquireWaitGroup", "(*sync.WaitGroup).Done"], apart := false }
def FnSerializerInOrderScriptNeverBlocksSaid : Prop := fnSerializerInOrderScriptNeverBlocksRow.holds Try.pinned (OpenSpec.ofChange fnSerializerInOrderScriptNeverBlocksSpec)

/-- ITS FALSE NEIGHBOUR: 'it returns false'. Refute it at one input. -/
def fnSerializerInOrderScriptNeverBlocksWrong : ChangeSpec := { name := "fnSerializerInOrderScriptNeverBlocks", fn := fun _ => fun
  | [d] => { results := [.lit (.bool false)], args := [d] }
  | _ => none }
def FnSerializerInOrderScriptNeverBlocksWrongFalsely : Prop := fnSerializerInOrderScriptNeverBlocksRow.holds Try.pinned (OpenSpec.ofChange fnSerializerInOrderScriptNeverBlocksWrong)

/- THE SECOND FORM. 'bulk': how many values and letters a reading holds, each counted each time it is reached (what is shared counts as often as it is met; a slice's spare places count too). A statement '..UptoSaid' is the law's where the arguments, and the package variables that the reading takes, are together of bulk at most 1048576: NARROWER than '..Said'. Prove '..Said' where nothing that the law and all that it calls make is longer than what came in: it says more and counts as full. Else prove '..UptoSaid'. A law counts once. -/
mutual
def uptoBulk {H : Type} : DataW H → Nat
  | .lit (.string bytes) => bytes.length + 1
  | .lit _ => 1
  | .nil => 1
  | .ptr d => uptoBulk d + 1
  | .slice elems spare => uptoBulkAll elems + uptoBulkAll spare + 1
  | .agg parts => uptoBulkAll parts + 1
  | .iface _ d => uptoBulk d + 1
  | .map entries => uptoBulkEntries entries + 1
  | .held _ => 1
def uptoBulkAll {H : Type} : List (DataW H) → Nat
  | [] => 0
  | d :: r => uptoBulk d + uptoBulkAll r
def uptoBulkEntries {H : Type} : List (Lit × DataW H) → Nat
  | [] => 0
  | x :: r => uptoBulkEntry x + uptoBulkEntries r
def uptoBulkEntry {H : Type} : Lit × DataW H → Nat
  | (.string bytes, d) => bytes.length + uptoBulk d + 1
  | (_, d) => uptoBulk d + 1
 end
def uptoSmall : (H : Type) → List (DataW H) → Bool := fun _ ds => decide (uptoBulkAll ds ≤ 1048576)
def OpenSpec.upto (s : _root_.Go.ChangeSpec) : _root_.Go.OpenSpec := { _root_.Go.OpenSpec.ofChange s with cond := some uptoSmall }

/-- 'n011_17.FnAddThenUndoRestores', WHERE WHAT IT READS IS OF BULK AT MOST 1048576: true; the input reads as it did. -/
def fnAddThenUndoRestoresUptoRow : OpenClaim := { program := "ytomkknleagncfaa", sum := "6ce68258dd9c9dfd2253ad9a83b9d32c652748ca5eacde33ebfba98233cca7f4", func := "github.com/evanw/esbuild/n011_17.FnAddThenUndoRestores", spec := "fnAddThenUndoRestores", inPlace := ["sync/atomic.AddInt32"], apart := false, narrowed := true }
def FnAddThenUndoRestoresUptoSaid : Prop := fnAddThenUndoRestoresUptoRow.holds Try.pinned (OpenSpec.upto fnAddThenUndoRestoresSpec)

/-- 'n011_17.FnWaitRoundsReuse', WHERE WHAT IT READS IS OF BULK AT MOST 1048576: true; the input reads as it did. -/
def fnWaitRoundsReuseUptoRow : OpenClaim := { program := "ytomkknleagncfaa", sum := "6ce68258dd9c9dfd2253ad9a83b9d32c652748ca5eacde33ebfba98233cca7f4", func := "github.com/evanw/esbuild/n011_17.FnWaitRoundsReuse", spec := "fnWaitRoundsReuse", inPlace := ["sync/atomic.AddInt32"], apart := false, narrowed := true }
def FnWaitRoundsReuseUptoSaid : Prop := fnWaitRoundsReuseUptoRow.holds Try.pinned (OpenSpec.upto fnWaitRoundsReuseSpec)

/-- 'n011_155.FnSerializerInOrderScriptNeverBlocks', WHERE WHAT IT READS IS OF BULK AT MOST 1048576: true; the input reads as it did. -/
def fnSerializerInOrderScriptNeverBlocksUptoRow : OpenClaim := { program := "ytomkknleagncfaa", sum := "6ce68258dd9c9dfd2253ad9a83b9d32c652748ca5eacde33ebfba98233cca7f4", func := "github.com/evanw/esbuild/n011_155.FnSerializerInOrderScriptNeverBlocks", spec := "fnSerializerInOrderScriptNeverBlocks", inPlace := ["(*sync.WaitGroup).Add", "internal/race.ReleaseMerge", "internal/race.Disable", "internal/race.Enable", "internal/synctest.IsInBubble", "internal/synctest.Associate[sync.WaitGroup]", "sync.fatal", "sync/atomic.OrUint64", "sync/atomic.AddUint64", "internal/race.Read", "sync/atomic.LoadUint64", "sync/atomic.StoreUint64", "internal/synctest.Disassociate[sync.WaitGroup]", "sync.runtime_Semrelease", "(*sync.WaitGroup).Wait", "internal/race.Acquire", "internal/synctest.IsAssociated[sync.WaitGroup]", "sync/atomic.CompareAndSwapUint64", "internal/race.Write", "sync.runtime_SemacquireWaitGroup", "(*sync.WaitGroup).Done"], apart := false, narrowed := true }
def FnSerializerInOrderScriptNeverBlocksUptoSaid : Prop := fnSerializerInOrderScriptNeverBlocksUptoRow.holds Try.pinned (OpenSpec.upto fnSerializerInOrderScriptNeverBlocksSpec)

end Rows
end Go.Proofs.Ytomkknleagncfaa
