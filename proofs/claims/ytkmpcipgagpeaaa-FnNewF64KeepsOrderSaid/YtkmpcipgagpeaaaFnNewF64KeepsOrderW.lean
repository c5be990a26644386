/-
  What the law FnNewF64KeepsOrder does, for every input. No condition.
-/
import Derived.Test.YtkmpcipgagpeaaaProg
import Derived.Test.YtkmpcipgagpeaaaFord
import Derived.Test.YtkmpcipgagpeaaaKit
namespace Go.Proofs.Ytkmpcipgagpeaaa.fnNewF64KeepsOrder
open Go.ChangeShapes Go.WideShapes Go.ChangeAt Go.RowKit
set_option linter.unusedVariables false

theorem walk (a0 : Nat) (a1 : Nat) (w : World) (w0 : (Lit.float .f64 a0).wf = true) (w1 : (Lit.float .f64 a1).wf = true) :
    Calls Try.prog 5 #[.float .f64 a0, .float .f64 a1] w fun e w' => e = .returned (.bool true) ∧ Below w.heap.size w w' := by
  go_enter Try.func5, Try.ntmps5
  go_wp2
  all_goals go_ret
  exact ⟨rfl, by go_grown⟩
end Go.Proofs.Ytkmpcipgagpeaaa.fnNewF64KeepsOrder
