/-
  What zzBuild gives for some of its twenty shapes. No condition.
-/
import Derived.Test.YtfbmadlcjpaddaaShape
import Derived.WideLaws
import Derived.Deep.RegionHeld3
namespace Go.Proofs.Ytfbmadlcjpaddaa
open Go.ChangeShapes Go.WideShapes Go.ChangeAt Go.RowKit
set_option linter.unusedVariables false


set_option maxRecDepth 100000 in
set_option maxHeartbeats 1000000 in
theorem build0 (a0 : Int) (a1 : Int) (a2 : Bool) (a3 : Nat) (a4 : Int) (w : World) (h0 : 0 ≤ a0) (h : a0 % 20 = 0) :
    Calls Try.prog 8 #[.int .u8 a0, .int .u8 a1, .bool a2, .float .f64 a3, .int .i32 a4] w (Gives (Plain 74) a4 w) := by
  go_enter Try.func8, Try.ntmps8
  go_wp2
  all_goals exact bodyPost_ret (by simp [results, Try.results8, go_sem]; rfl) rfl ⟨_, rfl, ⟨_, rfl, by simp⟩, by go_grown⟩

set_option maxRecDepth 100000 in
set_option maxHeartbeats 1000000 in
theorem build1 (a0 : Int) (a1 : Int) (a2 : Bool) (a3 : Nat) (a4 : Int) (w : World) (h0 : 0 ≤ a0) (h : a0 % 20 = 1) :
    Calls Try.prog 8 #[.int .u8 a0, .int .u8 a1, .bool a2, .float .f64 a3, .int .i32 a4] w (Gives (Plain 77) a4 w) := by
  go_enter Try.func8, Try.ntmps8
  go_wp2
  all_goals exact bodyPost_ret (by simp [results, Try.results8, go_sem]; rfl) rfl ⟨_, rfl, ⟨_, rfl, by simp⟩, by go_grown⟩

set_option maxRecDepth 100000 in
set_option maxHeartbeats 1000000 in
theorem build2 (a0 : Int) (a1 : Int) (a2 : Bool) (a3 : Nat) (a4 : Int) (w : World) (h0 : 0 ≤ a0) (h : a0 % 20 = 2) :
    Calls Try.prog 8 #[.int .u8 a0, .int .u8 a1, .bool a2, .float .f64 a3, .int .i32 a4] w (Gives (Plain 65) a4 w) := by
  go_enter Try.func8, Try.ntmps8
  go_wp2
  all_goals exact bodyPost_ret (by simp [results, Try.results8, go_sem]; rfl) rfl ⟨_, rfl, ⟨_, rfl, by simp⟩, by go_grown⟩

set_option maxRecDepth 100000 in
set_option maxHeartbeats 1000000 in
theorem build3 (a0 : Int) (a1 : Int) (a2 : Bool) (a3 : Nat) (a4 : Int) (w : World) (h0 : 0 ≤ a0) (h : a0 % 20 = 3) :
    Calls Try.prog 8 #[.int .u8 a0, .int .u8 a1, .bool a2, .float .f64 a3, .int .i32 a4] w (Gives (Plain 79) a4 w) := by
  go_enter Try.func8, Try.ntmps8
  go_wp2
  all_goals exact bodyPost_ret (by simp [results, Try.results8, go_sem]; rfl) rfl ⟨_, rfl, ⟨_, rfl, by simp⟩, by go_grown⟩

set_option maxRecDepth 100000 in
set_option maxHeartbeats 1000000 in
theorem build4 (a0 : Int) (a1 : Int) (a2 : Bool) (a3 : Nat) (a4 : Int) (w : World) (h0 : 0 ≤ a0) (h : a0 % 20 = 4) :
    Calls Try.prog 8 #[.int .u8 a0, .int .u8 a1, .bool a2, .float .f64 a3, .int .i32 a4] w (Gives (Plain 82) a4 w) := by
  go_enter Try.func8, Try.ntmps8
  go_wp2
  all_goals exact bodyPost_ret (by simp [results, Try.results8, go_sem]; rfl) rfl ⟨_, rfl, ⟨_, rfl, by simp⟩, by go_grown⟩

set_option maxRecDepth 100000 in
set_option maxHeartbeats 1000000 in
theorem build5 (a0 : Int) (a1 : Int) (a2 : Bool) (a3 : Nat) (a4 : Int) (w : World) (h0 : 0 ≤ a0) (h : a0 % 20 = 5) :
    Calls Try.prog 8 #[.int .u8 a0, .int .u8 a1, .bool a2, .float .f64 a3, .int .i32 a4] w (Gives (Plain 58) a4 w) := by
  go_enter Try.func8, Try.ntmps8
  go_wp2
  all_goals exact bodyPost_ret (by simp [results, Try.results8, go_sem]; rfl) rfl ⟨_, rfl, ⟨_, rfl, by simp⟩, by go_grown⟩

set_option maxRecDepth 100000 in
set_option maxHeartbeats 1000000 in
theorem build6 (a0 : Int) (a1 : Int) (a2 : Bool) (a3 : Nat) (a4 : Int) (w : World) (h0 : 0 ≤ a0) (h : a0 % 20 = 6) :
    Calls Try.prog 8 #[.int .u8 a0, .int .u8 a1, .bool a2, .float .f64 a3, .int .i32 a4] w (Gives (Plain 57) a4 w) := by
  go_enter Try.func8, Try.ntmps8
  go_wp2
  all_goals exact bodyPost_ret (by simp [results, Try.results8, go_sem]; rfl) rfl ⟨_, rfl, ⟨_, rfl, by simp⟩, by go_grown⟩

set_option maxRecDepth 100000 in
set_option maxHeartbeats 1000000 in
theorem build13 (a0 : Int) (a1 : Int) (a2 : Bool) (a3 : Nat) (a4 : Int) (w : World) (h0 : 0 ≤ a0) (h : a0 % 20 = 13) :
    Calls Try.prog 8 #[.int .u8 a0, .int .u8 a1, .bool a2, .float .f64 a3, .int .i32 a4] w (Gives (Wrap 106 79) a4 w) := by
  go_enter Try.func8, Try.ntmps8
  go_wp2
  all_goals exact bodyPost_ret (by simp [results, Try.results8, go_sem]; rfl) rfl ⟨_, rfl, ⟨_, _, rfl, by simp, by simp [go_sem]; rfl⟩, by go_grown⟩

set_option maxRecDepth 100000 in
set_option maxHeartbeats 1000000 in
theorem build14 (a0 : Int) (a1 : Int) (a2 : Bool) (a3 : Nat) (a4 : Int) (w : World) (h0 : 0 ≤ a0) (h : a0 % 20 = 14) :
    Calls Try.prog 8 #[.int .u8 a0, .int .u8 a1, .bool a2, .float .f64 a3, .int .i32 a4] w (Gives (Wrap 110 82) a4 w) := by
  go_enter Try.func8, Try.ntmps8
  go_wp2
  all_goals exact bodyPost_ret (by simp [results, Try.results8, go_sem]; rfl) rfl ⟨_, rfl, ⟨_, _, rfl, by simp, by simp [go_sem]; rfl⟩, by go_grown⟩

set_option maxRecDepth 100000 in
set_option maxHeartbeats 1000000 in
theorem build15 (a0 : Int) (a1 : Int) (a2 : Bool) (a3 : Nat) (a4 : Int) (w : World) (h0 : 0 ≤ a0) (h : a0 % 20 = 15) :
    Calls Try.prog 8 #[.int .u8 a0, .int .u8 a1, .bool a2, .float .f64 a3, .int .i32 a4] w (Gives (fun _ v => v = .nilIface) a4 w) := by
  go_enter Try.func8, Try.ntmps8
  go_wp2
  all_goals exact bodyPost_ret (by simp [results, Try.results8, go_sem]) rfl ⟨_, rfl, rfl, by go_grown⟩

set_option maxRecDepth 100000 in
set_option maxHeartbeats 1000000 in
theorem build16 (a0 : Int) (a1 : Int) (a2 : Bool) (a3 : Nat) (a4 : Int) (w : World) (h0 : 0 ≤ a0) (h : a0 % 20 = 16) :
    Calls Try.prog 8 #[.int .u8 a0, .int .u8 a1, .bool a2, .float .f64 a3, .int .i32 a4] w (Gives (Plain 113) a4 w) := by
  go_enter Try.func8, Try.ntmps8
  go_wp2
  all_goals exact bodyPost_ret (by simp [results, Try.results8, go_sem]; rfl) rfl ⟨_, rfl, ⟨_, rfl, by simp⟩, by go_grown⟩

set_option maxRecDepth 100000 in
set_option maxHeartbeats 1000000 in
theorem build17 (a0 : Int) (a1 : Int) (a2 : Bool) (a3 : Nat) (a4 : Int) (w : World) (h0 : 0 ≤ a0) (h : a0 % 20 = 17) :
    Calls Try.prog 8 #[.int .u8 a0, .int .u8 a1, .bool a2, .float .f64 a3, .int .i32 a4] w (Gives (Plain 122) a4 w) := by
  go_enter Try.func8, Try.ntmps8
  go_wp2
  all_goals exact bodyPost_ret (by simp [results, Try.results8, go_sem]; rfl) rfl ⟨_, rfl, ⟨_, rfl, by simp⟩, by go_grown⟩
end Go.Proofs.Ytfbmadlcjpaddaa
