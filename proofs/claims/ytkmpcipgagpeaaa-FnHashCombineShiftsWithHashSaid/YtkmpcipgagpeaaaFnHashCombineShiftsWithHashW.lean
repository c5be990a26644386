/-
  What the law FnHashCombineShiftsWithHash does, for every input. No condition.
-/
import Derived.Test.YtkmpcipgagpeaaaProg
import Derived.Test.YtkmpcipgagpeaaaFord
import Derived.Test.YtkmpcipgagpeaaaKit
namespace Go.Proofs.Ytkmpcipgagpeaaa.fnHashCombineShiftsWithHash
open Go.ChangeShapes Go.WideShapes Go.ChangeAt Go.RowKit
set_option linter.unusedVariables false

theorem xor_back (a t : Int) (h1 : 0 ≤ a) (h2 : a < 4294967296) (h3 : 0 ≤ t) (h4 : t < 4294967296) :
    bits .xor .u32 (bits .xor .u32 a t) a = t := by
  obtain ⟨x, rfl⟩ := Int.eq_ofNat_of_zero_le h1
  obtain ⟨y, rfl⟩ := Int.eq_ofNat_of_zero_le h3
  have hx : x < 2 ^ 32 := by omega
  have hy : y < 2 ^ 32 := by omega
  rw [u32_xor_nat x y (by omega) (by omega)]
  have hlt : x ^^^ y < 2 ^ 32 := Nat.xor_lt_two_pow hx hy
  rw [u32_xor_nat (x ^^^ y) x (by omega) (by omega)]
  rw [Nat.xor_comm x y, Nat.xor_assoc, Nat.xor_self, Nat.xor_zero]

theorem back (a0 a1 a2 : Int) (h0 : 0 ≤ a0 ∧ a0 < 4294967296) (h2 : 0 ≤ a2 ∧ a2 < 4294967296) :
    ((bits BinOp.xor IntKind.u32 (bits BinOp.xor IntKind.u32 a0 ((a1 + a2 + 2654435769 + a0 * 64 + a0 / 4) % 4294967296)) a0 -
      bits BinOp.xor IntKind.u32 (bits BinOp.xor IntKind.u32 a0 ((a1 + 2654435769 + a0 * 64 + a0 / 4) % 4294967296)) a0) % 4294967296 == a2) = true := by
  rw [xor_back _ _ (by omega) (by omega) (by omega) (by omega), xor_back _ _ (by omega) (by omega) (by omega) (by omega)]
  simp only [beq_iff_eq]
  omega

theorem walk (a0 : Int) (a1 : Int) (a2 : Int) (w : World) (w0 : (Lit.int .u32 a0).wf = true) (w1 : (Lit.int .u32 a1).wf = true) (w2 : (Lit.int .u32 a2).wf = true) :
    Calls Try.prog 3 #[.int .u32 a0, .int .u32 a1, .int .u32 a2] w fun e w' => e = .returned (.bool true) ∧ Below w.heap.size w w' := by
  have H := back a0 a1 a2 (u32_range w0) (u32_range w2)
  clear w0 w1 w2
  go_enter Try.func3, Try.ntmps3
  go_wp2
  go_ret
  exact ⟨by simp, Below.refl _ _⟩
end Go.Proofs.Ytkmpcipgagpeaaa.fnHashCombineShiftsWithHash
