/-
  What the law FnSubMatchesIntegerDifference does, for every input. No condition.
-/
import Derived.Test.YtkmpcipgagpeaaaSame
import Derived.Test.YtkmpcipgagpeaaaKit
namespace Go.Proofs.Ytkmpcipgagpeaaa.fnSubMatchesIntegerDifference
open Go.ChangeShapes Go.WideShapes Go.ChangeAt Go.RowKit
set_option linter.unusedVariables false

theorem walk (a0 : Int) (a1 : Int) (w : World) (w0 : (Lit.int .i64 a0).wf = true) (w1 : (Lit.int .i64 a1).wf = true) :
    Calls Try.prog 8 #[.int .i64 a0, .int .i64 a1] w fun e w' => e = .returned (.bool true) ∧ Below w.heap.size w w' := by
  have r0 := i64_range w0
  have r1 := i64_range w1
  clear w0 w1
  by_cases h : a0.natAbs ≤ 4503599627370496 ∧ a1.natAbs ≤ 4503599627370496
  · have b1 : ¬ 4503599627370496 < a0 := by omega
    have b2 : ¬ a0 < -4503599627370496 := by omega
    have b3 : ¬ 4503599627370496 < a1 := by omega
    have b4 : ¬ a1 < -4503599627370496 := by omega
    have hr := fun W : World => run_float_arith (P := Try.prog) W .sub 25 .f64 _ _ _ (show floatBits .sub .f64 (floatOfInt .f64 a0) (floatOfInt .f64 a1) = some (floatOfInt .f64 (a0 - a1)) from Fp.iw_sub (by omega) (by omega))
    clear h
    go_enter Try.func8, Try.ntmps8
    go_wp2_with (first | (go_at_call 15; refine (sameB7 _ (iw_not_nan _) _).mono ?_; rintro e w' ⟨rfl, rfl⟩) | go_in)
    go_ret
    exact ⟨rfl, by go_grown⟩
  · go_enter Try.func8, Try.ntmps8
    go_wp2_with fail
    all_goals (go_ret; exact ⟨rfl, Below.refl _ _⟩)
end Go.Proofs.Ytkmpcipgagpeaaa.fnSubMatchesIntegerDifference
