/-
  The contract of wtf8Enc. No condition.
-/
import Derived.Test.YtihcflebpgefbaaDec
namespace Go.Proofs.Ytihcflebpgefbaa
open Go.ChangeShapes Go.WideShapes Go.ChangeAt Go.RowKit
set_option linter.unusedVariables false

abbrev bts (a b c d : Nat) : Value := .agg #[.int .u8 (a : Int), .int .u8 (b : Int), .int .u8 (c : Int), .int .u8 (d : Int)]
def EncTo (a b c d : Nat) (k : Int) (w : World) (e : Ending) (w' : World) : Prop := e = .returned (.tuple #[bts a b c d, .int .i64 k]) ∧ Below w.heap.size w w'
set_option maxRecDepth 10000000 in
set_option maxHeartbeats 4000000 in
theorem enc1 (v : Int) (cp : Nat) (hv : v = cp) (h : cp < 128) (w : World) : Calls Try.prog 7 #[.int .u32 v] w (EncTo cp 0 0 0 1 w) := by
  subst hv
  go_enter Try.func7, Try.ntmps7
  go_wp2
  refine bodyPost_ret (by simp [results, Try.results7, go_sem]; rfl) rfl ⟨?_, by go_grown⟩
  simp
set_option maxRecDepth 10000000 in
set_option maxHeartbeats 4000000 in
theorem enc2 (v : Int) (cp : Nat) (hv : v = cp) (h1 : 128 ≤ cp) (h : cp < 2048) (w : World) : Calls Try.prog 7 #[.int .u32 v] w (EncTo (192 + cp / 64) (128 + cp % 64) 0 0 2 w) := by
  subst hv
  go_enter Try.func7, Try.ntmps7
  go_wp2
  refine bodyPost_ret (by simp [results, Try.results7, go_sem]; rfl) rfl ⟨?_, by go_grown⟩
  simp
set_option maxRecDepth 10000000 in
set_option maxHeartbeats 4000000 in
theorem enc3 (v : Int) (cp : Nat) (hv : v = cp) (h1 : 2048 ≤ cp) (h : cp ≤ 65535) (w : World) : Calls Try.prog 7 #[.int .u32 v] w (EncTo (224 + cp / 4096) (128 + cp / 64 % 64) (128 + cp % 64) 0 3 w) := by
  subst hv
  go_enter Try.func7, Try.ntmps7
  go_wp2
  refine bodyPost_ret (by simp [results, Try.results7, go_sem]; rfl) rfl ⟨?_, by go_grown⟩
  simp
set_option maxRecDepth 10000000 in
set_option maxHeartbeats 4000000 in
theorem enc4 (v : Int) (cp : Nat) (hv : v = cp) (h1 : 65535 < cp) (h : cp ≤ 1114111) (w : World) : Calls Try.prog 7 #[.int .u32 v] w (EncTo (240 + cp / 262144) (128 + cp / 4096 % 64) (128 + cp / 64 % 64) (128 + cp % 64) 4 w) := by
  subst hv
  go_enter Try.func7, Try.ntmps7
  go_wp2
  refine bodyPost_ret (by simp [results, Try.results7, go_sem]; rfl) rfl ⟨?_, by go_grown⟩
  simp
set_option maxRecDepth 10000000 in
set_option maxHeartbeats 4000000 in
theorem encX (v : Int) (cp : Nat) (hv : v = cp) (h1 : 1114111 < cp) (h : cp < 4294967296) (w : World) : Calls Try.prog 7 #[.int .u32 v] w (EncTo 239 191 189 0 3 w) := by
  subst hv
  go_enter Try.func7, Try.ntmps7
  go_wp2
  refine bodyPost_ret (by simp [results, Try.results7, go_sem]; rfl) rfl ⟨?_, by go_grown⟩
  simp
end Go.Proofs.Ytihcflebpgefbaa
