/-
  The law FnPercentDataURLMatchesModel's walk. No condition but the two tables of unicode/utf8.
-/
import Derived.Test.YtocnfapldcjilaaDoorEnco
import Derived.Test.YtocnfapldcjilaaDoorMod
import Derived.Test.YtocnfapldcjilaaDoorUtf
namespace Go.Proofs.YtocnfapldcjilaaDoor.fnPercentDataURLMatchesModel
open Go.ChangeShapes Go.WideShapes Go.ChangeAt Go.RowKit
set_option linter.unusedVariables false

theorem bytes4 (a b : ByteArray) (w : World) (ha : a.size ≤ maxLen) (hb : b.size ≤ maxLen) :
    Calls Tryd.prog 4 #[.string a, .string b] w fun e w' => (∃ v, e = .returned (.bool v)) ∧ w = w' := by
  unfold maxLen at ha hb
  by_cases h1 : a.size ≤ 1048576
  · by_cases h2 : b.size ≤ 1048576
    · by_cases h3 : a.size + b.size ≤ 1048576
      all_goals
        go_enter Tryd.func4, Tryd.ntmps4
        go_wp2
        go_ret
        exact ⟨⟨_, rfl⟩, rfl⟩
    · go_enter Tryd.func4, Tryd.ntmps4
      go_wp2
      go_ret
      exact ⟨⟨_, rfl⟩, rfl⟩
  · go_enter Tryd.func4, Tryd.ntmps4
    go_wp2
    go_ret
    exact ⟨⟨_, rfl⟩, rfl⟩
set_option maxHeartbeats 2000000 in
theorem walk (a0 : ByteArray) (a1 : ByteArray) (w : World) (w0 : a0.size ≤ maxLen) (w1 : a1.size ≤ maxLen) (hT : Lib.Utf8Tabs 0 1 w) :
    Calls Tryd.prog 3 #[.string a0, .string a1] w fun e w' => e = .returned (.bool true) ∧ Below w.heap.size w w' := by
  have HB := Lib.hid (bytes4 a0 a1 w w0 w1)
  have HT := Lib.hid hT
  clear hT
  unfold maxLen at w0 w1
  by_cases h1 : a0.size ≤ 524288
  · by_cases h2 : a1.size ≤ 524288
    · have H5 := enco5 a0 a1 h1 h2 w HT.out
      have H6 := fun W => Lib.hid (valid6 a1 (by omega) W)
      have H7 := fun W => Lib.hid (model7 a0 a1 h1 h2 W)
      unfold Url at H5
      generalize url a0.data.toList a1.data.toList = U at *
      cases hv : validB a1 with
      | true =>
        rw [hv] at H5
        simp only [hv] at H6
        rw [if_pos rfl] at H5
        have H5 := Lib.hid H5
        clear hv
        go_enter Tryd.func3, Tryd.ntmps3
        go_wp2_with (first
          | (go_at_call 4; (with_reducible refine HB.out.mono ?_); rintro _ _ ⟨⟨v, rfl⟩, rfl⟩)
          | (go_at_call 5; (with_reducible refine H5.out.mono ?_); rintro _ w3 ⟨rfl, hb3⟩)
          | (go_at_call 6; (with_reducible refine (H6 _).out.mono ?_); rintro _ _ ⟨rfl, rfl⟩)
          | (go_at_call 7; (with_reducible refine (H7 _).out.mono ?_); rintro _ w4 ⟨rfl, hb4⟩))
        all_goals (go_ret; exact ⟨by first | rfl | simp, by first | exact Below.refl _ _ | exact hb3.trans (hb4.mono hb3.size)⟩)
      | false =>
        rw [hv] at H5
        simp only [hv] at H6
        rw [if_neg (by decide)] at H5
        have H5 := Lib.hid H5
        clear hv
        go_enter Tryd.func3, Tryd.ntmps3
        go_wp2_with (first
          | (go_at_call 4; (with_reducible refine HB.out.mono ?_); rintro _ _ ⟨⟨v, rfl⟩, rfl⟩)
          | (go_at_call 5; (with_reducible refine H5.out.mono ?_); rintro _ w3 ⟨rfl, hb3⟩)
          | (go_at_call 6; (with_reducible refine (H6 _).out.mono ?_); rintro _ _ ⟨rfl, rfl⟩))
        all_goals (go_ret; exact ⟨by first | rfl | simp, by first | exact Below.refl _ _ | exact hb3⟩)
    · go_enter Tryd.func3, Tryd.ntmps3
      go_wp2_with (go_at_call 4; (with_reducible refine HB.out.mono ?_); rintro _ _ ⟨⟨v, rfl⟩, rfl⟩)
      all_goals (go_ret; exact ⟨by first | rfl | simp, Below.refl _ _⟩)
  · go_enter Tryd.func3, Tryd.ntmps3
    go_wp2_with (go_at_call 4; (with_reducible refine HB.out.mono ?_); rintro _ _ ⟨⟨v, rfl⟩, rfl⟩)
    all_goals (go_ret; exact ⟨by first | rfl | simp, Below.refl _ _⟩)
end Go.Proofs.YtocnfapldcjilaaDoor.fnPercentDataURLMatchesModel
