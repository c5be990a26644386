/-
  What the law FnDivUndoesIntegerProduct does, for every input. No condition.
-/
import Derived.Test.YtkmpcipgagpeaabProg
import Derived.Test.YtkmpcipgagpeaabFord
import Derived.Test.YtkmpcipgagpeaabKit
namespace Go.Proofs.Ytkmpcipgagpeaab.fnDivUndoesIntegerProduct
open Go.ChangeShapes Go.WideShapes Go.ChangeAt Go.RowKit
set_option linter.unusedVariables false

theorem prod_range {a b : Int} (ha : a.natAbs ≤ 67108864) (hb : b.natAbs ≤ 67108864) : -4503599627370496 ≤ a * b ∧ a * b ≤ 4503599627370496 := by
  have h : (a * b).natAbs ≤ 67108864 * 67108864 := by rw [Int.natAbs_mul]; exact Nat.mul_le_mul ha hb
  omega

theorem walk (a0 : Int) (a1 : Int) (w : World) (w0 : (Lit.int .i64 a0).wf = true) (w1 : (Lit.int .i64 a1).wf = true) :
    Calls Try.prog 3 #[.int .i64 a0, .int .i64 a1] w fun e w' => e = .returned (.bool true) ∧ Below w.heap.size w w' := by
  have r0 := i64_range w0
  have r1 := i64_range w1
  clear w0 w1
  by_cases h : a0.natAbs ≤ 67108864 ∧ a1.natAbs ≤ 67108864 ∧ a1 ≠ 0
  · have b1 : ¬ 67108864 < a0 := by omega
    have b2 : ¬ a0 < -67108864 := by omega
    have b3 : ¬ 67108864 < a1 := by omega
    have b4 : ¬ a1 < -67108864 := by omega
    have b5 : (a1 == 0) = false := by simpa using h.2.2
    have pr := prod_range h.1 h.2.1
    obtain ⟨r, hd, hn, hk⟩ := Fp.iw_div h.1 h.2.1 h.2.2
    have hq : (FloatKind.f64.format.order r (floatOfInt .f64 a0) == some .eq) = true := by
      rw [show FloatKind.f64.format.order r (floatOfInt .f64 a0) = some (compare (Fp.ky r) (Fp.ky (Fp.iw a0))) from Fp.order_words hn (iw_not_nan a0), hk]; simp
    have hr := fun (t : TypeId) (W : World) => run_float_arith (P := Try.prog) W .quo t .f64 _ _ _ (show floatBits .quo .f64 (floatOfInt .f64 (a0 * a1)) (floatOfInt .f64 a1) = some r from hd)
    clear h hd hk hn
    go_enter Try.func3, Try.ntmps3
    go_wp2
    go_ret
    exact ⟨rfl, by go_grown⟩
  · go_enter Try.func3, Try.ntmps3
    go_wp2_with fail
    all_goals (go_ret; exact ⟨rfl, Below.refl _ _⟩)
end Go.Proofs.Ytkmpcipgagpeaab.fnDivUndoesIntegerProduct
