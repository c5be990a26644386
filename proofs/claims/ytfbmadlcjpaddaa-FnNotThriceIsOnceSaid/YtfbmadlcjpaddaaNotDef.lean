/-
  MaybeSimplifyNot and Not, at each kind of node that FnNotThriceIsOnce builds. No condition.
-/
import Derived.Test.YtfbmadlcjpaddaaTas
import Derived.Test.YtfbmadlcjpaddaaOwn
import Derived.Test.YtfbmadlcjpaddaaFord
import Derived.Test.YtfbmadlcjpaddaaKnown
import Derived.WalkSmall
import Derived.Deep.RegionHeld3
namespace Go.Proofs.Ytfbmadlcjpaddaa
open Go.ChangeShapes Go.WideShapes Go.ChangeAt Go.RowKit
set_option linter.unusedVariables false

/-- A boolean literal with value v, at location l. -/
def NB (v : Bool) (l : Int) (w : World) (e : Ending) (w' : World) : Prop := ∃ b, e = .returned (.agg #[.iface 65 (.pointer (some ⟨b, 0, none⟩)), .int .i32 l]) ∧ w'.cell? ⟨b, 0, none⟩ = some (.bool v) ∧ b < w'.heap.size ∧ Below w.heap.size w w'
/-- A new "!" over the node d. -/
def NU (d : Value) (l : Int) (w : World) (e : Ending) (w' : World) : Prop := ∃ b, e = .returned (.agg #[.iface 69 (.pointer (some ⟨b, 0, none⟩)), .int .i32 l]) ∧ w'.cell? ⟨b, 0, none⟩ = some d ∧ w'.cell? ⟨b, 1, none⟩ = some (.int .i32 l) ∧ w'.cell? ⟨b, 2, none⟩ = some (.int .u8 3) ∧ w.heap.size ≤ b ∧ b < w'.heap.size ∧ Below w.heap.size w w'
/-- Simplified, to a boolean literal. -/
def MB (v : Bool) (l : Int) (w : World) (e : Ending) (w' : World) : Prop := ∃ b, e = .returned (.tuple #[.agg #[.iface 65 (.pointer (some ⟨b, 0, none⟩)), .int .i32 l], .bool true]) ∧ w'.cell? ⟨b, 0, none⟩ = some (.bool v) ∧ w.heap.size ≤ b ∧ b < w'.heap.size ∧ Below w.heap.size w w'
/-- Not simplified. -/
def MF (w : World) (e : Ending) (w' : World) : Prop := e = .returned (.tuple #[.agg #[.nilIface, .int .i32 0], .bool false]) ∧ Below w.heap.size w w'
def Kn (t : Int) (w : World) (e : Ending) (w' : World) : Prop := e = .returned (.int .u8 t) ∧ Below w.heap.size w w'
end Go.Proofs.Ytfbmadlcjpaddaa
