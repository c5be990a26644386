/-
  The leaves of FnNotThriceIsOnce and the law's model. No condition.
-/
import Derived.Test.YtfbmadlcjpaddaaNotDef
import Derived.Test.YtfbmadlcjpaddaaCl
namespace Go.Proofs.Ytfbmadlcjpaddaa
open Go.ChangeShapes Go.WideShapes Go.ChangeAt Go.RowKit
set_option linter.unusedVariables false
set_option linter.unusedSimpArgs false
/-- What mkLeafB2 gives: a node of type T; with a first cell. -/
def Mk (T : TypeId) (l : Int) (w : World) (e : Ending) (w' : World) : Prop := ∃ b p1 p2 p3, e = .returned (.tuple #[.agg #[.iface T (.pointer (some ⟨b, 0, none⟩)), .int .i32 l], .pointer p1, .pointer p2, .pointer p3]) ∧ b < w'.heap.size ∧ Below w.heap.size w w'
def MkC (T : TypeId) (v : Value) (l : Int) (w : World) (e : Ending) (w' : World) : Prop := ∃ b p1 p2 p3, e = .returned (.tuple #[.agg #[.iface T (.pointer (some ⟨b, 0, none⟩)), .int .i32 l], .pointer p1, .pointer p2, .pointer p3]) ∧ b < w'.heap.size ∧ w'.cell? ⟨b, 0, none⟩ = some v ∧ Below w.heap.size w w'
set_option maxRecDepth 100000 in
set_option maxHeartbeats 2000000 in
theorem mk0 (a0 : Int) (a1 : Bool) (a2 : Nat) (p : Option Addr) (n c : Nat) (s : ByteArray) (l : Int) (w : World) (h0 : 0 ≤ a0) (h : a0 % 11 = 0) : Calls Try.prog 27 #[.int .u8 a0, .bool a1, .float .f64 a2, .slice p n c, .string s, .int .i32 l] w (Mk 74 l w) := by
  go_enter Try.func27, Try.ntmps27
  go_wp2
  exact bodyPost_ret (by (first | (simp [results, Try.results27, go_sem]; done) | (simp [results, Try.results27, go_sem]; rfl))) rfl ⟨w.heap.size + 1 + 1, none, none, none, rfl, by go_size, by go_grown⟩
set_option maxRecDepth 100000 in
set_option maxHeartbeats 2000000 in
theorem mk1 (a0 : Int) (a1 : Bool) (a2 : Nat) (p : Option Addr) (n c : Nat) (s : ByteArray) (l : Int) (w : World) (h0 : 0 ≤ a0) (h : a0 % 11 = 1) : Calls Try.prog 27 #[.int .u8 a0, .bool a1, .float .f64 a2, .slice p n c, .string s, .int .i32 l] w (Mk 77 l w) := by
  go_enter Try.func27, Try.ntmps27
  go_wp2
  exact bodyPost_ret (by (first | (simp [results, Try.results27, go_sem]; done) | (simp [results, Try.results27, go_sem]; rfl))) rfl ⟨w.heap.size + 1 + 1, none, none, none, rfl, by go_size, by go_grown⟩
set_option maxRecDepth 100000 in
set_option maxHeartbeats 2000000 in
theorem mk2 (a0 : Int) (a1 : Bool) (a2 : Nat) (p : Option Addr) (n c : Nat) (s : ByteArray) (l : Int) (w : World) (h0 : 0 ≤ a0) (h : a0 % 11 = 2) : Calls Try.prog 27 #[.int .u8 a0, .bool a1, .float .f64 a2, .slice p n c, .string s, .int .i32 l] w (MkC 65 (.bool a1) l w) := by
  go_enter Try.func27, Try.ntmps27
  go_wp2
  exact bodyPost_ret (by (first | (simp [results, Try.results27, go_sem]; done) | (simp [results, Try.results27, go_sem]; rfl))) rfl ⟨w.heap.size + 1 + 1, none, none, none, rfl, by go_size, by simp [go_sem], by go_grown⟩
set_option maxRecDepth 100000 in
set_option maxHeartbeats 2000000 in
theorem mk3 (a0 : Int) (a1 : Bool) (a2 : Nat) (p : Option Addr) (n c : Nat) (s : ByteArray) (l : Int) (w : World) (h0 : 0 ≤ a0) (h : a0 % 11 = 3) : Calls Try.prog 27 #[.int .u8 a0, .bool a1, .float .f64 a2, .slice p n c, .string s, .int .i32 l] w (MkC 79 (.float .f64 a2) l w) := by
  go_enter Try.func27, Try.ntmps27
  go_wp2
  exact bodyPost_ret (by (first | (simp [results, Try.results27, go_sem]; done) | (simp [results, Try.results27, go_sem]; rfl))) rfl ⟨w.heap.size + 1 + 1, none, none, none, rfl, by go_size, by simp [go_sem], by go_grown⟩
set_option maxRecDepth 100000 in
set_option maxHeartbeats 2000000 in
theorem mk4 (a0 : Int) (a1 : Bool) (a2 : Nat) (p : Option Addr) (n c : Nat) (s : ByteArray) (l : Int) (w : World) (h0 : 0 ≤ a0) (h : a0 % 11 = 4) : Calls Try.prog 27 #[.int .u8 a0, .bool a1, .float .f64 a2, .slice p n c, .string s, .int .i32 l] w (MkC 82 (.slice p n c) l w) := by
  go_enter Try.func27, Try.ntmps27
  go_wp2
  exact bodyPost_ret (by (first | (simp [results, Try.results27, go_sem]; done) | (simp [results, Try.results27, go_sem]; rfl))) rfl ⟨w.heap.size + 1 + 1, none, none, none, rfl, by go_size, by simp [go_sem], by go_grown⟩
set_option maxRecDepth 100000 in
set_option maxHeartbeats 2000000 in
theorem mk5 (a0 : Int) (a1 : Bool) (a2 : Nat) (p : Option Addr) (n c : Nat) (s : ByteArray) (l : Int) (w : World) (h0 : 0 ≤ a0) (h : a0 % 11 = 5) : Calls Try.prog 27 #[.int .u8 a0, .bool a1, .float .f64 a2, .slice p n c, .string s, .int .i32 l] w (MkC 58 (.string s) l w) := by
  go_enter Try.func27, Try.ntmps27
  go_wp2
  exact bodyPost_ret (by (first | (simp [results, Try.results27, go_sem]; done) | (simp [results, Try.results27, go_sem]; rfl))) rfl ⟨w.heap.size + 1 + 1, none, some ⟨w.heap.size + 1 + 1, 0, none⟩, none, rfl, by go_size, by simp [go_sem], by go_grown⟩
set_option maxRecDepth 100000 in
set_option maxHeartbeats 2000000 in
theorem mk6 (a0 : Int) (a1 : Bool) (a2 : Nat) (p : Option Addr) (n c : Nat) (s : ByteArray) (l : Int) (w : World) (h0 : 0 ≤ a0) (h : a0 % 11 = 6) : Calls Try.prog 27 #[.int .u8 a0, .bool a1, .float .f64 a2, .slice p n c, .string s, .int .i32 l] w (Mk 136 l w) := by
  go_enter Try.func27, Try.ntmps27
  go_wp2
  exact bodyPost_ret (by (first | (simp [results, Try.results27, go_sem]; done) | (simp [results, Try.results27, go_sem]; rfl))) rfl ⟨w.heap.size + 1 + 1, none, none, none, rfl, by go_size, by go_grown⟩
set_option maxRecDepth 100000 in
set_option maxHeartbeats 2000000 in
theorem mk7 (a0 : Int) (a1 : Bool) (a2 : Nat) (p : Option Addr) (n c : Nat) (s : ByteArray) (l : Int) (w : World) (h0 : 0 ≤ a0) (h : a0 % 11 = 7) : Calls Try.prog 27 #[.int .u8 a0, .bool a1, .float .f64 a2, .slice p n c, .string s, .int .i32 l] w (Mk 113 l w) := by
  go_enter Try.func27, Try.ntmps27
  go_wp2
  exact bodyPost_ret (by (first | (simp [results, Try.results27, go_sem]; done) | (simp [results, Try.results27, go_sem]; rfl))) rfl ⟨w.heap.size + 1 + 1, none, none, none, rfl, by go_size, by go_grown⟩
set_option maxRecDepth 100000 in
set_option maxHeartbeats 2000000 in
theorem mk8 (a0 : Int) (a1 : Bool) (a2 : Nat) (p : Option Addr) (n c : Nat) (s : ByteArray) (l : Int) (w : World) (h0 : 0 ≤ a0) (h : a0 % 11 = 8) : Calls Try.prog 27 #[.int .u8 a0, .bool a1, .float .f64 a2, .slice p n c, .string s, .int .i32 l] w (Mk 137 l w) := by
  go_enter Try.func27, Try.ntmps27
  go_wp2
  exact bodyPost_ret (by (first | (simp [results, Try.results27, go_sem]; done) | (simp [results, Try.results27, go_sem]; rfl))) rfl ⟨w.heap.size + 1 + 1, none, none, none, rfl, by go_size, by go_grown⟩
set_option maxRecDepth 100000 in
set_option maxHeartbeats 2000000 in
theorem mk9 (a0 : Int) (a1 : Bool) (a2 : Nat) (p : Option Addr) (n c : Nat) (s : ByteArray) (l : Int) (w : World) (h0 : 0 ≤ a0) (h : a0 % 11 = 9) : Calls Try.prog 27 #[.int .u8 a0, .bool a1, .float .f64 a2, .slice p n c, .string s, .int .i32 l] w (Mk 57 l w) := by
  go_enter Try.func27, Try.ntmps27
  go_wp2
  exact bodyPost_ret (by (first | (simp [results, Try.results27, go_sem]; done) | (simp [results, Try.results27, go_sem]; rfl))) rfl ⟨w.heap.size + 1 + 1, some ⟨w.heap.size + 1 + 1, 0, none⟩, none, none, rfl, by go_size, by go_grown⟩
set_option maxRecDepth 100000 in
set_option maxHeartbeats 2000000 in
theorem mk10 (a0 : Int) (a1 : Bool) (a2 : Nat) (p : Option Addr) (n c : Nat) (s : ByteArray) (l : Int) (w : World) (h0 : 0 ≤ a0) (h : a0 % 11 = 10) : Calls Try.prog 27 #[.int .u8 a0, .bool a1, .float .f64 a2, .slice p n c, .string s, .int .i32 l] w (Mk 59 l w) := by
  go_enter Try.func27, Try.ntmps27
  go_wp2
  exact bodyPost_ret (by (first | (simp [results, Try.results27, go_sem]; done) | (simp [results, Try.results27, go_sem]; rfl))) rfl ⟨w.heap.size + 1 + 1, none, none, some ⟨w.heap.size + 1 + 1, 0, none⟩, rfl, by go_size, by go_grown⟩
end Go.Proofs.Ytfbmadlcjpaddaa
