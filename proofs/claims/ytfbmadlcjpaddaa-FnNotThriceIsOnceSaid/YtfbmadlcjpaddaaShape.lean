/-
  What an expression is, by its interface's dynamic type. No condition.
-/
import Derived.Test.YtfbmadlcjpaddaaProg
import Derived.Test.YtfbmadlcjpaddaaKit
import Derived.Test.YtfbmadlcjpaddaaFlt
import Derived.WideLaws
import Derived.Deep.RegionHeld3
namespace Go.Proofs.Ytfbmadlcjpaddaa
open Go.ChangeShapes Go.WideShapes Go.ChangeAt Go.RowKit
set_option linter.unusedVariables false

/-- An interface value of type T that points to a block. -/
def Plain (T : TypeId) (w : World) (v : Value) : Prop := ∃ b, v = .iface T (.pointer (some ⟨b, 0, none⟩)) ∧ b < w.heap.size
/-- The same, one of its cells known. -/
def Flag (T : TypeId) (o : Nat) (c : Value) (w : World) (v : Value) : Prop := ∃ b, v = .iface T (.pointer (some ⟨b, 0, none⟩)) ∧ b < w.heap.size ∧ w.cell? ⟨b, o, none⟩ = some c
/-- A wrapper round an interface value of type U. -/
def Wrap (T U : TypeId) (w : World) (v : Value) : Prop := ∃ b y, v = .iface T (.pointer (some ⟨b, 0, none⟩)) ∧ b < w.heap.size ∧ w.cell? ⟨b, 0, none⟩ = some (.iface U (.pointer (some ⟨y, 0, none⟩)))
/-- An expression: its data, its location. -/
def Gives (Q : World → Value → Prop) (a4 : Int) (w : World) (e : Ending) (w' : World) : Prop := ∃ v, e = .returned (.agg #[v, .int .i32 a4]) ∧ Q w' v ∧ Below w.heap.size w w'

theorem ident (w : World) : Calls Try.prog 32 #[] w fun e w' => e = .returned (.agg #[.iface 57 (.pointer (some ⟨w.heap.size + 1, 0, none⟩)), .int .i32 0]) ∧
    w' = (w.alloc (.cells #[.iface 57 (.pointer (some ⟨w.heap.size + 1, 0, none⟩)), .int .i32 0] 28)).alloc (.cells #[.int .u32 0, .int .u32 0, .bool false, .bool false, .bool false] 91) := by
  go_enter Try.func32, Try.ntmps32
  go_wp2
  exact bodyPost_ret (v := .agg #[.iface 57 (.pointer (some ⟨w.heap.size + 1, 0, none⟩)), .int .i32 0]) (by simp [results, Try.results32, go_sem]) rfl ⟨rfl, rfl⟩
end Go.Proofs.Ytfbmadlcjpaddaa
