/-
  What the law FnNoBaseURLPatternPrefixTable does, for every input. No condition.
-/
import Derived.Test.YtlgdojbojlbehaaFmtLy
import Derived.Test.YtlgdojbojlbehaaFmtLm
namespace Go.Proofs.YtlgdojbojlbehaaFmt.fnNoBaseURLPatternPrefixTable
open Go.ChangeShapes Go.WideShapes Go.ChangeAt Go.RowKit Go.Extern.Stop Go.Stop Go.Extern
set_option linter.unusedVariables false

set_option maxRecDepth 100000 in
theorem bytes4 (t : ByteArray) (w : World) (h : t.size ≤ 9223372036854775807) : Calls Tryf.prog 4 #[.string t] w fun e w' => e = .returned (.bool (decide (t.size ≤ 1048576))) ∧ w = w' := by
  by_cases h1 : t.size ≤ 1048576
  · rw [decide_eq_true h1]
    go_enter Tryf.func4, Tryf.ntmps4
    go_wp2
    go_ret
    exact ⟨rfl, rfl⟩
  · rw [decide_eq_false h1]
    go_enter Tryf.func4, Tryf.ntmps4
    go_wp2
    go_ret
    exact ⟨rfl, rfl⟩
set_option maxRecDepth 100000 in
set_option maxHeartbeats 4000000 in
theorem walk (F : Interp) (a0 : ByteArray) (w : World) (w0 : a0.size ≤ maxLen) (hF : F.told.answers w.tape) :
    Calls Tryf.prog 3 #[.string a0] w fun e w' => e = .returned (.bool true) ∧ Below w.heap.size w w' := by
  unfold maxLen at w0
  have H4 := bytes4 a0 w w0
  by_cases h1 : a0.size ≤ 1048576
  · rw [decide_eq_true h1] at H4
    have H5 := wrap5 F hF a0 h1
    have H6 := fun W => Lib.hid (model6 a0 W)
    generalize acc a0.size (cB a0 0) (cB a0 1) (cB a0 2) = b at *
    clear hF
    go_enter Tryf.func3, Tryf.ntmps3
    go_wp2_with fail
    refine H4.mono ?_
    rintro _ _ ⟨rfl, rfl⟩
    go_wp2_with fail
    refine H5.mono ?_
    rintro _ w1 ⟨⟨n, tr, rfl⟩, hb⟩
    go_wp2_with fail
    refine (H6 w1).out.mono ?_
    rintro _ _ ⟨rfl, rfl⟩
    go_wp2_with fail
    go_ret
    exact ⟨rfl, hb⟩
  · rw [decide_eq_false h1] at H4
    go_enter Tryf.func3, Tryf.ntmps3
    go_wp2_with fail
    refine H4.mono ?_
    rintro _ _ ⟨rfl, rfl⟩
    go_wp2_with fail
    go_ret
    exact ⟨rfl, Below.refl _ _⟩
end Go.Proofs.YtlgdojbojlbehaaFmt.fnNoBaseURLPatternPrefixTable
