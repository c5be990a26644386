/-
  MaybeSimplifyNot at some kinds of node. No condition.
-/
import Derived.Test.YtfbmadlcjpaddaaNotDef
namespace Go.Proofs.Ytfbmadlcjpaddaa
open Go.ChangeShapes Go.WideShapes Go.ChangeAt Go.RowKit
set_option linter.unusedVariables false
set_option linter.unusedSimpArgs false
set_option maxRecDepth 100000 in
set_option maxHeartbeats 2000000 in
theorem ms65 (y : Nat) (v : Bool) (l : Int) (w : World) (hlt : y < w.heap.size) (hc : w.cell? ⟨y, 0, none⟩ = some (.bool v)) : Calls Try.prog 13 #[.agg #[.iface 65 (.pointer (some ⟨y, 0, none⟩)), .int .i32 l]] w (MB (!v) l w) := by
  go_enter Try.func13, Try.ntmps13
  go_wp2_with fail
  go_region
  all_goals go_wp2_with fail
  all_goals exact bodyPost_ret (by simp [results, Try.results13, go_sem]; rfl) rfl ⟨_, rfl, by simp [go_sem], by (first | omega | (simp; omega)), by go_size, by go_grown⟩
set_option maxRecDepth 100000 in
set_option maxHeartbeats 2000000 in
theorem ms82 (y : Nat) (p : Option Addr) (n c : Nat) (l : Int) (w : World) (hlt : y < w.heap.size) (hc : w.cell? ⟨y, 0, none⟩ = some (.slice p n c)) : Calls Try.prog 13 #[.agg #[.iface 82 (.pointer (some ⟨y, 0, none⟩)), .int .i32 l]] w (MB ((n : Int) == 0) l w) := by
  go_enter Try.func13, Try.ntmps13
  go_wp2_with fail
  go_region
  all_goals go_wp2_with fail
  all_goals exact bodyPost_ret (by simp [results, Try.results13, go_sem]; rfl) rfl ⟨_, rfl, by simp [go_sem], by (first | omega | (simp; omega)), by go_size, by go_grown⟩
theorem nan34 (x : Nat) (v : Bool) (w : World) (h : (FloatKind.f64.format.order x x != some .eq) = v) : Calls Try.prog 34 #[.float .f64 x] w fun e w' => e = .returned (.bool v) ∧ w' = w := by
  go_enter Try.func34, Try.ntmps34
  go_wp2
  go_ret
  exact ⟨by simp [go_sem, h], rfl⟩
end Go.Proofs.Ytfbmadlcjpaddaa
