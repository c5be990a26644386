/-
  MaybeSimplifyNot at some kinds of node. No condition.
-/
import Derived.Test.YtfbmadlcjpaddaaNotDef
namespace Go.Proofs.Ytfbmadlcjpaddaa
open Go.ChangeShapes Go.WideShapes Go.ChangeAt Go.RowKit
set_option linter.unusedVariables false
set_option linter.unusedSimpArgs false
set_option maxRecDepth 100000 in
set_option maxHeartbeats 2000000 in
theorem ms74 (y : Nat) (l : Int) (w : World) : Calls Try.prog 13 #[.agg #[.iface 74 (.pointer (some ⟨y, 0, none⟩)), .int .i32 l]] w (MB true l w) := by
  go_enter Try.func13, Try.ntmps13
  go_wp2_with fail
  exact bodyPost_ret (by simp [results, Try.results13, go_sem]; rfl) rfl ⟨_, rfl, by simp [go_sem], by (first | omega | (simp; omega)), by go_size, by go_grown⟩
set_option maxRecDepth 100000 in
set_option maxHeartbeats 2000000 in
theorem ms77 (y : Nat) (l : Int) (w : World) : Calls Try.prog 13 #[.agg #[.iface 77 (.pointer (some ⟨y, 0, none⟩)), .int .i32 l]] w (MB true l w) := by
  go_enter Try.func13, Try.ntmps13
  go_wp2_with fail
  exact bodyPost_ret (by simp [results, Try.results13, go_sem]; rfl) rfl ⟨_, rfl, by simp [go_sem], by (first | omega | (simp; omega)), by go_size, by go_grown⟩
set_option maxRecDepth 100000 in
set_option maxHeartbeats 2000000 in
theorem ms136 (y : Nat) (l : Int) (w : World) : Calls Try.prog 13 #[.agg #[.iface 136 (.pointer (some ⟨y, 0, none⟩)), .int .i32 l]] w (MB false l w) := by
  go_enter Try.func13, Try.ntmps13
  go_wp2_with fail
  exact bodyPost_ret (by simp [results, Try.results13, go_sem]; rfl) rfl ⟨_, rfl, by simp [go_sem], by (first | omega | (simp; omega)), by go_size, by go_grown⟩
set_option maxRecDepth 100000 in
set_option maxHeartbeats 2000000 in
theorem ms113 (y : Nat) (l : Int) (w : World) : Calls Try.prog 13 #[.agg #[.iface 113 (.pointer (some ⟨y, 0, none⟩)), .int .i32 l]] w (MB false l w) := by
  go_enter Try.func13, Try.ntmps13
  go_wp2_with fail
  exact bodyPost_ret (by simp [results, Try.results13, go_sem]; rfl) rfl ⟨_, rfl, by simp [go_sem], by (first | omega | (simp; omega)), by go_size, by go_grown⟩
set_option maxRecDepth 100000 in
set_option maxHeartbeats 2000000 in
theorem ms137 (y : Nat) (l : Int) (w : World) : Calls Try.prog 13 #[.agg #[.iface 137 (.pointer (some ⟨y, 0, none⟩)), .int .i32 l]] w (MB false l w) := by
  go_enter Try.func13, Try.ntmps13
  go_wp2_with fail
  exact bodyPost_ret (by simp [results, Try.results13, go_sem]; rfl) rfl ⟨_, rfl, by simp [go_sem], by (first | omega | (simp; omega)), by go_size, by go_grown⟩
set_option maxRecDepth 100000 in
set_option maxHeartbeats 2000000 in
theorem ms57 (y : Nat) (l : Int) (w : World) : Calls Try.prog 13 #[.agg #[.iface 57 (.pointer (some ⟨y, 0, none⟩)), .int .i32 l]] w (MF w) := by
  go_enter Try.func13, Try.ntmps13
  go_wp2_with fail
  exact bodyPost_ret (by simp [results, Try.results13, go_sem]) rfl ⟨rfl, by go_grown⟩
set_option maxRecDepth 100000 in
set_option maxHeartbeats 2000000 in
theorem kn57 (y : Nat) (w : World) : Calls Try.prog 11 #[.iface 57 (.pointer (some ⟨y, 0, none⟩))] w (Kn 0 w) := by
  go_enter Try.func11, Try.ntmps11
  go_wp2_with fail
  go_ret
  exact ⟨rfl, by go_grown⟩
set_option maxRecDepth 100000 in
set_option maxHeartbeats 2000000 in
theorem ms59 (y : Nat) (l : Int) (w : World) : Calls Try.prog 13 #[.agg #[.iface 59 (.pointer (some ⟨y, 0, none⟩)), .int .i32 l]] w (MF w) := by
  go_enter Try.func13, Try.ntmps13
  go_wp2_with fail
  exact bodyPost_ret (by simp [results, Try.results13, go_sem]) rfl ⟨rfl, by go_grown⟩
set_option maxRecDepth 100000 in
set_option maxHeartbeats 2000000 in
theorem kn59 (y : Nat) (w : World) : Calls Try.prog 11 #[.iface 59 (.pointer (some ⟨y, 0, none⟩))] w (Kn 0 w) := by
  go_enter Try.func11, Try.ntmps11
  go_wp2_with fail
  go_ret
  exact ⟨rfl, by go_grown⟩
set_option maxRecDepth 100000 in
set_option maxHeartbeats 2000000 in
theorem kn58 (y : Nat) (w : World) : Calls Try.prog 11 #[.iface 58 (.pointer (some ⟨y, 0, none⟩))] w (Kn 7 w) := by
  go_enter Try.func11, Try.ntmps11
  go_wp2_with fail
  go_ret
  exact ⟨rfl, by go_grown⟩
set_option maxRecDepth 100000 in
set_option maxHeartbeats 2000000 in
theorem kn69 (y : Nat) (w : World) (hc : w.cell? ⟨y, 2, none⟩ = some (.int .u8 3)) : Calls Try.prog 11 #[.iface 69 (.pointer (some ⟨y, 0, none⟩))] w (Kn 4 w) := by
  go_enter Try.func11, Try.ntmps11
  go_wp2_with fail
  go_ret
  exact ⟨rfl, by go_grown⟩
end Go.Proofs.Ytfbmadlcjpaddaa
