/-
  What KnownPrimitiveType gives for each shape. No condition.
-/
import Derived.Test.YtfbmadlcjpaddaaShape
import Derived.Test.YtfbmadlcjpaddaaTas
import Derived.WideLaws
import Derived.WalkSmall
import Derived.Deep.RegionHeld3
namespace Go.Proofs.Ytfbmadlcjpaddaa
open Go.ChangeShapes Go.WideShapes Go.ChangeAt Go.RowKit
set_option linter.unusedVariables false

set_option maxRecDepth 100000 in
set_option maxHeartbeats 1000000 in
theorem known0 (b : Nat) (w : World) : Calls Try.prog 11 #[.iface 74 (.pointer (some ⟨b, 0, none⟩))] w fun e w' => e = .returned (.int .u8 2) ∧ Below w.heap.size w w' := by
  go_enter Try.func11, Try.ntmps11
  go_wp2_with fail
  go_ret
  exact ⟨rfl, by go_grown⟩
set_option maxRecDepth 100000 in
set_option maxHeartbeats 1000000 in
theorem known1 (b : Nat) (w : World) : Calls Try.prog 11 #[.iface 77 (.pointer (some ⟨b, 0, none⟩))] w fun e w' => e = .returned (.int .u8 3) ∧ Below w.heap.size w w' := by
  go_enter Try.func11, Try.ntmps11
  go_wp2_with fail
  go_ret
  exact ⟨rfl, by go_grown⟩
set_option maxRecDepth 100000 in
set_option maxHeartbeats 1000000 in
theorem known2 (b : Nat) (w : World) : Calls Try.prog 11 #[.iface 65 (.pointer (some ⟨b, 0, none⟩))] w fun e w' => e = .returned (.int .u8 4) ∧ Below w.heap.size w w' := by
  go_enter Try.func11, Try.ntmps11
  go_wp2_with fail
  go_ret
  exact ⟨rfl, by go_grown⟩
set_option maxRecDepth 100000 in
set_option maxHeartbeats 1000000 in
theorem known3 (b : Nat) (w : World) : Calls Try.prog 11 #[.iface 79 (.pointer (some ⟨b, 0, none⟩))] w fun e w' => e = .returned (.int .u8 5) ∧ Below w.heap.size w w' := by
  go_enter Try.func11, Try.ntmps11
  go_wp2_with fail
  go_ret
  exact ⟨rfl, by go_grown⟩
set_option maxRecDepth 100000 in
set_option maxHeartbeats 1000000 in
theorem known4 (b : Nat) (w : World) : Calls Try.prog 11 #[.iface 82 (.pointer (some ⟨b, 0, none⟩))] w fun e w' => e = .returned (.int .u8 6) ∧ Below w.heap.size w w' := by
  go_enter Try.func11, Try.ntmps11
  go_wp2_with fail
  go_ret
  exact ⟨rfl, by go_grown⟩
set_option maxRecDepth 100000 in
set_option maxHeartbeats 1000000 in
theorem known5 (b : Nat) (w : World) : Calls Try.prog 11 #[.iface 58 (.pointer (some ⟨b, 0, none⟩))] w fun e w' => e = .returned (.int .u8 7) ∧ Below w.heap.size w w' := by
  go_enter Try.func11, Try.ntmps11
  go_wp2_with fail
  go_ret
  exact ⟨rfl, by go_grown⟩
set_option maxRecDepth 100000 in
set_option maxHeartbeats 1000000 in
theorem known6 (b : Nat) (w : World) : Calls Try.prog 11 #[.iface 57 (.pointer (some ⟨b, 0, none⟩))] w fun e w' => e = .returned (.int .u8 0) ∧ Below w.heap.size w w' := by
  go_enter Try.func11, Try.ntmps11
  go_wp2_with fail
  go_ret
  exact ⟨rfl, by go_grown⟩
set_option maxRecDepth 100000 in
set_option maxHeartbeats 1000000 in
theorem known7 (b : Nat) (w : World) : Calls Try.prog 11 #[.iface 92 (.pointer (some ⟨b, 0, none⟩))] w fun e w' => e = .returned (.int .u8 0) ∧ Below w.heap.size w w' := by
  go_enter Try.func11, Try.ntmps11
  go_wp2_with fail
  go_ret
  exact ⟨rfl, by go_grown⟩
set_option maxRecDepth 100000 in
set_option maxHeartbeats 1000000 in
theorem known8 (b : Nat) (w : World) : Calls Try.prog 11 #[.iface 96 (.pointer (some ⟨b, 0, none⟩))] w fun e w' => e = .returned (.int .u8 0) ∧ Below w.heap.size w w' := by
  go_enter Try.func11, Try.ntmps11
  go_wp2_with fail
  go_ret
  exact ⟨rfl, by go_grown⟩
set_option maxRecDepth 100000 in
set_option maxHeartbeats 1000000 in
theorem known9 (b : Nat) (w : World) : Calls Try.prog 11 #[.iface 99 (.pointer (some ⟨b, 0, none⟩))] w fun e w' => e = .returned (.int .u8 0) ∧ Below w.heap.size w w' := by
  go_enter Try.func11, Try.ntmps11
  go_wp2_with fail
  go_ret
  exact ⟨rfl, by go_grown⟩
set_option maxRecDepth 100000 in
set_option maxHeartbeats 1000000 in
theorem known10 (b : Nat) (w : World) (hc : w.cell? ⟨b, 2, none⟩ = some (.int .u8 5)) : Calls Try.prog 11 #[.iface 69 (.pointer (some ⟨b, 0, none⟩))] w fun e w' => e = .returned (.int .u8 6) ∧ Below w.heap.size w w' := by
  go_enter Try.func11, Try.ntmps11
  go_wp2_with fail
  go_ret
  exact ⟨rfl, by go_grown⟩
set_option maxRecDepth 100000 in
set_option maxHeartbeats 1000000 in
theorem known11 (b : Nat) (w : World) (hc : w.cell? ⟨b, 2, none⟩ = some (.int .u8 4)) : Calls Try.prog 11 #[.iface 69 (.pointer (some ⟨b, 0, none⟩))] w fun e w' => e = .returned (.int .u8 3) ∧ Below w.heap.size w w' := by
  go_enter Try.func11, Try.ntmps11
  go_wp2_with fail
  go_ret
  exact ⟨rfl, by go_grown⟩
set_option maxRecDepth 100000 in
set_option maxHeartbeats 1000000 in
theorem known12 (b : Nat) (w : World) (hc : w.cell? ⟨b, 4, none⟩ = some (.int .u8 28)) : Calls Try.prog 11 #[.iface 103 (.pointer (some ⟨b, 0, none⟩))] w fun e w' => e = .returned (.int .u8 4) ∧ Below w.heap.size w w' := by
  go_enter Try.func11, Try.ntmps11
  go_wp2_with fail
  go_ret
  exact ⟨rfl, by go_grown⟩
set_option maxRecDepth 100000 in
set_option maxHeartbeats 1000000 in
theorem known13 (b y : Nat) (w : World) (hc : w.cell? ⟨b, 0, none⟩ = some (.iface 79 (.pointer (some ⟨y, 0, none⟩)))) : Calls Try.prog 11 #[.iface 106 (.pointer (some ⟨b, 0, none⟩))] w fun e w' => e = .returned (.int .u8 5) ∧ Below w.heap.size w w' := by
  go_enter Try.func11, Try.ntmps11
  go_wp2_with (go_at_call 11; refine (known3 _ _).mono ?_; rintro e w' ⟨rfl, hb⟩)
  go_ret
  exact ⟨rfl, by go_grown⟩
set_option maxRecDepth 100000 in
set_option maxHeartbeats 1000000 in
theorem known14 (b y : Nat) (w : World) (hc : w.cell? ⟨b, 0, none⟩ = some (.iface 82 (.pointer (some ⟨y, 0, none⟩)))) : Calls Try.prog 11 #[.iface 110 (.pointer (some ⟨b, 0, none⟩))] w fun e w' => e = .returned (.int .u8 6) ∧ Below w.heap.size w w' := by
  go_enter Try.func11, Try.ntmps11
  go_wp2_with (go_at_call 11; refine (known4 _ _).mono ?_; rintro e w' ⟨rfl, hb⟩)
  go_ret
  exact ⟨rfl, by go_grown⟩
set_option maxRecDepth 100000 in
set_option maxHeartbeats 1000000 in
theorem known15 (w : World) : Calls Try.prog 11 #[.nilIface] w fun e w' => e = .returned (.int .u8 0) ∧ Below w.heap.size w w' := by
  go_enter Try.func11, Try.ntmps11
  go_wp2_with fail
  go_ret
  exact ⟨rfl, by go_grown⟩
set_option maxRecDepth 100000 in
set_option maxHeartbeats 1000000 in
theorem known16 (b : Nat) (w : World) : Calls Try.prog 11 #[.iface 113 (.pointer (some ⟨b, 0, none⟩))] w fun e w' => e = .returned (.int .u8 0) ∧ Below w.heap.size w w' := by
  go_enter Try.func11, Try.ntmps11
  go_wp2_with fail
  go_ret
  exact ⟨rfl, by go_grown⟩
set_option maxRecDepth 100000 in
set_option maxHeartbeats 1000000 in
theorem known17 (b : Nat) (w : World) : Calls Try.prog 11 #[.iface 122 (.pointer (some ⟨b, 0, none⟩))] w fun e w' => e = .returned (.int .u8 0) ∧ Below w.heap.size w w' := by
  go_enter Try.func11, Try.ntmps11
  go_wp2_with fail
  go_ret
  exact ⟨rfl, by go_grown⟩
set_option maxRecDepth 100000 in
set_option maxHeartbeats 1000000 in
theorem known18 (b y : Nat) (w : World) (hc : w.cell? ⟨b, 0, none⟩ = some (.iface 92 (.pointer (some ⟨y, 0, none⟩)))) : Calls Try.prog 11 #[.iface 106 (.pointer (some ⟨b, 0, none⟩))] w fun e w' => e = .returned (.int .u8 0) ∧ Below w.heap.size w w' := by
  go_enter Try.func11, Try.ntmps11
  go_wp2_with (go_at_call 11; refine (known7 _ _).mono ?_; rintro e w' ⟨rfl, hb⟩)
  go_ret
  exact ⟨rfl, by go_grown⟩
set_option maxRecDepth 100000 in
set_option maxHeartbeats 1000000 in
theorem known19 (b y : Nat) (w : World) (hc : w.cell? ⟨b, 0, none⟩ = some (.iface 96 (.pointer (some ⟨y, 0, none⟩)))) : Calls Try.prog 11 #[.iface 110 (.pointer (some ⟨b, 0, none⟩))] w fun e w' => e = .returned (.int .u8 0) ∧ Below w.heap.size w w' := by
  go_enter Try.func11, Try.ntmps11
  go_wp2_with (go_at_call 11; refine (known8 _ _).mono ?_; rintro e w' ⟨rfl, hb⟩)
  go_ret
  exact ⟨rfl, by go_grown⟩
end Go.Proofs.Ytfbmadlcjpaddaa
