/-
  The comparison sameFB7 of a word with itself. No condition.
-/
import Derived.Test.YtkmpcipgagpeaaaProg
import Derived.Test.YtkmpcipgagpeaaaFord
namespace Go.Proofs.Ytkmpcipgagpeaaa
open Go.ChangeShapes Go.WideShapes Go.ChangeAt Go.RowKit
set_option linter.unusedVariables false

theorem sameB7 (x : Nat) (h : ¬ Fp.nan x) (w : World) :
    Calls Try.prog 15 #[.float .f64 x, .float .f64 x] w fun e w' => e = .returned (.bool true) ∧ w = w' := by
  have h1 : (FloatKind.f64.format.order x x != some .eq) = false := by rw [ord_refl h]; rfl
  have h2 : (FloatKind.f64.format.order x x == some .eq) = true := by rw [ord_refl h]; rfl
  by_cases h0 : Fp.rg x = 0
  · have h3 := ord_zero' h0
    have hr2 := fun W : World => run_float_arith (P := Try.prog) W .quo 25 .f64 _ _ _ (show floatBits .quo .f64 4607182418800017408 x = _ from Fp.one_over_zero h0)
    generalize Fp.wd (Fp.sg x) 9218868437227405312 = r at hr2
    clear h0 h
    go_enter Try.func15, Try.ntmps15
    go_wp2
    all_goals (go_ret; exact ⟨rfl, rfl⟩)
  · have h3 := ord_zero h h0
    clear h0 h
    go_enter Try.func15, Try.ntmps15
    go_wp2
    all_goals (go_ret; exact ⟨rfl, rfl⟩)
end Go.Proofs.Ytkmpcipgagpeaaa
