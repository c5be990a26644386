/-
  What zzBuild gives for some of its twenty shapes. No condition.
-/
import Derived.Test.YtfbmadlcjpaddaaShape
import Derived.WideLaws
import Derived.Deep.RegionHeld3
namespace Go.Proofs.Ytfbmadlcjpaddaa
open Go.ChangeShapes Go.WideShapes Go.ChangeAt Go.RowKit
set_option linter.unusedVariables false


set_option maxRecDepth 100000 in
set_option maxHeartbeats 1000000 in
theorem build7 (a0 : Int) (a1 : Int) (a2 : Bool) (a3 : Nat) (a4 : Int) (w : World) (h0 : 0 ≤ a0) (h : a0 % 20 = 7) :
    Calls Try.prog 8 #[.int .u8 a0, .int .u8 a1, .bool a2, .float .f64 a3, .int .i32 a4] w (Gives (Plain 92) a4 w) := by
  go_enter Try.func8, Try.ntmps8
  go_wp2
  go_region_held3 (fun w' => w'.cell? ⟨w.heap.size + 1, 0, none⟩ = some (.int .i32 a4)) (first | (simp [go_sem]; done) | go_keep) (first | (go_at_call 32; refine (ident _).mono ?_; rintro e w' ⟨rfl, rfl⟩))
  all_goals go_wp2
  all_goals exact bodyPost_ret (by simp [results, Try.results8, go_sem]; rfl) rfl ⟨_, rfl, ⟨_, rfl, by simp⟩, by go_grown⟩

set_option maxRecDepth 100000 in
set_option maxHeartbeats 1000000 in
theorem build9 (a0 : Int) (a1 : Int) (a2 : Bool) (a3 : Nat) (a4 : Int) (w : World) (h0 : 0 ≤ a0) (h : a0 % 20 = 9) :
    Calls Try.prog 8 #[.int .u8 a0, .int .u8 a1, .bool a2, .float .f64 a3, .int .i32 a4] w (Gives (Plain 99) a4 w) := by
  go_enter Try.func8, Try.ntmps8
  go_wp2
  go_region_held3 (fun w' => w'.cell? ⟨w.heap.size + 1, 0, none⟩ = some (.int .i32 a4)) (first | (simp [go_sem]; done) | go_keep) (first | (go_at_call 32; refine (ident _).mono ?_; rintro e w' ⟨rfl, rfl⟩))
  all_goals go_wp2
  all_goals exact bodyPost_ret (by simp [results, Try.results8, go_sem]; rfl) rfl ⟨_, rfl, ⟨_, rfl, by simp⟩, by go_grown⟩

set_option maxRecDepth 100000 in
set_option maxHeartbeats 1000000 in
theorem build10 (a0 : Int) (a1 : Int) (a2 : Bool) (a3 : Nat) (a4 : Int) (w : World) (h0 : 0 ≤ a0) (h : a0 % 20 = 10) :
    Calls Try.prog 8 #[.int .u8 a0, .int .u8 a1, .bool a2, .float .f64 a3, .int .i32 a4] w (Gives (Flag 69 2 (.int .u8 5)) a4 w) := by
  go_enter Try.func8, Try.ntmps8
  go_wp2
  go_region_held3 (fun w' => w'.cell? ⟨w.heap.size + 1, 0, none⟩ = some (.int .i32 a4)) (first | (simp [go_sem]; done) | go_keep) (first | (go_at_call 32; refine (ident _).mono ?_; rintro e w' ⟨rfl, rfl⟩))
  all_goals go_wp2
  all_goals exact bodyPost_ret (by simp [results, Try.results8, go_sem]; rfl) rfl ⟨_, rfl, ⟨_, rfl, by simp, by simp [go_sem]⟩, by go_grown⟩

set_option maxRecDepth 100000 in
set_option maxHeartbeats 1000000 in
theorem build11 (a0 : Int) (a1 : Int) (a2 : Bool) (a3 : Nat) (a4 : Int) (w : World) (h0 : 0 ≤ a0) (h : a0 % 20 = 11) :
    Calls Try.prog 8 #[.int .u8 a0, .int .u8 a1, .bool a2, .float .f64 a3, .int .i32 a4] w (Gives (Flag 69 2 (.int .u8 4)) a4 w) := by
  go_enter Try.func8, Try.ntmps8
  go_wp2
  go_region_held3 (fun w' => w'.cell? ⟨w.heap.size + 1, 0, none⟩ = some (.int .i32 a4)) (first | (simp [go_sem]; done) | go_keep) (first | (go_at_call 32; refine (ident _).mono ?_; rintro e w' ⟨rfl, rfl⟩))
  all_goals go_wp2
  all_goals exact bodyPost_ret (by simp [results, Try.results8, go_sem]; rfl) rfl ⟨_, rfl, ⟨_, rfl, by simp, by simp [go_sem]⟩, by go_grown⟩

set_option maxRecDepth 100000 in
set_option maxHeartbeats 1000000 in
theorem build12 (a0 : Int) (a1 : Int) (a2 : Bool) (a3 : Nat) (a4 : Int) (w : World) (h0 : 0 ≤ a0) (h : a0 % 20 = 12) :
    Calls Try.prog 8 #[.int .u8 a0, .int .u8 a1, .bool a2, .float .f64 a3, .int .i32 a4] w (Gives (Flag 103 4 (.int .u8 28)) a4 w) := by
  go_enter Try.func8, Try.ntmps8
  go_wp2
  go_region_held3 (fun w' => w'.cell? ⟨w.heap.size + 1, 0, none⟩ = some (.int .i32 a4)) (first | (simp [go_sem]; done) | go_keep) (first | (go_at_call 32; refine (ident _).mono ?_; rintro e w' ⟨rfl, rfl⟩))
  all_goals go_wp2
  all_goals exact bodyPost_ret (by simp [results, Try.results8, go_sem]; rfl) rfl ⟨_, rfl, ⟨_, rfl, by simp, by simp [go_sem]⟩, by go_grown⟩
end Go.Proofs.Ytfbmadlcjpaddaa
