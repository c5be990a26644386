/-
  MaybeSimplifyNot at some kinds of node. No condition.
-/
import Derived.Test.YtfbmadlcjpaddaaNotsD
namespace Go.Proofs.Ytfbmadlcjpaddaa
open Go.ChangeShapes Go.WideShapes Go.ChangeAt Go.RowKit
set_option linter.unusedVariables false
set_option linter.unusedSimpArgs false
set_option maxRecDepth 100000 in
set_option maxHeartbeats 2000000 in
theorem ms79a (y : Nat) (x : Nat) (l : Int) (w : World) (hlt : y < w.heap.size) (hc : w.cell? ⟨y, 0, none⟩ = some (.float .f64 x)) (he : (FloatKind.f64.format.order x 0 == some .eq) = true) : Calls Try.prog 13 #[.agg #[.iface 79 (.pointer (some ⟨y, 0, none⟩)), .int .i32 l]] w (MB true l w) := by
  go_enter Try.func13, Try.ntmps13
  go_wp2_with fail
  go_region
  all_goals go_wp2_with fail
  all_goals exact bodyPost_ret (by simp [results, Try.results13, go_sem]; rfl) rfl ⟨_, rfl, by simp [go_sem], by (first | omega | (simp; omega)), by go_size, by go_grown⟩
set_option maxRecDepth 100000 in
set_option maxHeartbeats 2000000 in
theorem ms79b (y : Nat) (x : Nat) (l : Int) (w : World) (hlt : y < w.heap.size) (hc : w.cell? ⟨y, 0, none⟩ = some (.float .f64 x)) (he : (FloatKind.f64.format.order x 0 == some .eq) = false) (hn : (FloatKind.f64.format.order x x != some .eq) = true) : Calls Try.prog 13 #[.agg #[.iface 79 (.pointer (some ⟨y, 0, none⟩)), .int .i32 l]] w (MB true l w) := by
  go_enter Try.func13, Try.ntmps13
  go_wp2_with fail
  go_region_held3 (fun w' => w'.cell? ⟨w.heap.size, 1, none⟩ = some (.int .i32 l) ∧ w'.cell? ⟨y, 0, none⟩ = some (.float .f64 x)) (first | assumption | exact ⟨by simp [go_sem], ((by go_grown : Below w.heap.size w _).cell (p := ⟨y, 0, none⟩) hlt).trans hc⟩ | (simp [go_sem]; done) | go_keep) (first | (go_at_call 34; refine (nan34 x _ _ hn).mono ?_; rintro e w' ⟨rfl, rfl⟩))
  all_goals go_wp2_with fail
  all_goals exact bodyPost_ret (by simp [results, Try.results13, go_sem]; rfl) rfl ⟨_, rfl, by simp [go_sem], by (first | omega | (simp; omega)), by go_size, by go_grown⟩
set_option maxRecDepth 100000 in
set_option maxHeartbeats 2000000 in
theorem ms79c (y : Nat) (x : Nat) (l : Int) (w : World) (hlt : y < w.heap.size) (hc : w.cell? ⟨y, 0, none⟩ = some (.float .f64 x)) (he : (FloatKind.f64.format.order x 0 == some .eq) = false) (hn : (FloatKind.f64.format.order x x != some .eq) = false) : Calls Try.prog 13 #[.agg #[.iface 79 (.pointer (some ⟨y, 0, none⟩)), .int .i32 l]] w (MB false l w) := by
  go_enter Try.func13, Try.ntmps13
  go_wp2_with fail
  go_region_held3 (fun w' => w'.cell? ⟨w.heap.size, 1, none⟩ = some (.int .i32 l) ∧ w'.cell? ⟨y, 0, none⟩ = some (.float .f64 x)) (first | assumption | exact ⟨by simp [go_sem], ((by go_grown : Below w.heap.size w _).cell (p := ⟨y, 0, none⟩) hlt).trans hc⟩ | (simp [go_sem]; done) | go_keep) (first | (go_at_call 34; refine (nan34 x _ _ hn).mono ?_; rintro e w' ⟨rfl, rfl⟩))
  all_goals go_wp2_with fail
  all_goals exact bodyPost_ret (by simp [results, Try.results13, go_sem]; rfl) rfl ⟨_, rfl, by simp [go_sem], by (first | omega | (simp; omega)), by go_size, by go_grown⟩
end Go.Proofs.Ytfbmadlcjpaddaa
