/-
  What the law FnMin2Exact does, for every input. No condition.
-/
import Derived.Test.YtbjbjhldigecmaaMin
import Derived.Test.YtbjbjhldigecmaaKit
import Derived.WalkSmall
namespace Go.Proofs.Ytbjbjhldigecmaa.fnMin2Exact
open Go.ChangeShapes Go.WideShapes Go.ChangeAt Go.RowKit
set_option linter.unusedVariables false


theorem walk (a0 : Nat) (a1 : Nat) (w : World) (w0 : (Lit.float .f64 a0).wf = true) (w1 : (Lit.float .f64 a1).wf = true) :
    Calls Try.prog 6 #[.float .f64 a0, .float .f64 a1] w fun e w' => e = .returned (.bool true) ∧ Below w.heap.size w w' := by
  have l0 := f64_range w0
  have l1 := f64_range w1
  clear w0 w1
  have e0 := eq_ni l0
  have e1 := eq_ni l1
  by_cases h0 : a0 = ni
  · have em : (FloatKind.f64.format.order (minW a0 a1) ni == some .eq) = true := by rw [minW_inf l0 l1 (.inl h0), f_eq ni_nn ni_nn]; simp
    replace e0 : (FloatKind.f64.format.order a0 ni == some .eq) = true := by rw [e0]; simpa using h0
    clear e1 h0 l0 l1
    go_enter Try.func6, Try.ntmps6
    go_wp2_with (first | (go_at_call 22; (with_reducible refine (c_min2 _ _ _).mono ?_); rintro e w' ⟨rfl, hb⟩) | (go_at_call 23; (with_reducible refine (c_negInf _).mono ?_); rintro e w' ⟨rfl, rfl⟩) | (go_at_call 24; (with_reducible refine (isNan_yes (by assumption) _).mono ?_); rintro e w' ⟨rfl, rfl⟩) | (go_at_call 24; (with_reducible refine (isNan_no (by assumption) _).mono ?_); rintro e w' ⟨rfl, rfl⟩) | (go_at_call 25; (with_reducible refine (c_same (by assumption) _).mono ?_); rintro e w' ⟨rfl, rfl⟩) | (go_at_call 26; (with_reducible refine (c_negZero (by assumption) _).mono ?_); rintro e w' ⟨rfl, rfl⟩))
    go_ret
    exact ⟨rfl, hb⟩
  by_cases h1 : a1 = ni
  · have em : (FloatKind.f64.format.order (minW a0 a1) ni == some .eq) = true := by rw [minW_inf l0 l1 (.inr h1), f_eq ni_nn ni_nn]; simp
    replace e0 : (FloatKind.f64.format.order a0 ni == some .eq) = false := by rw [e0]; simpa using h0
    replace e1 : (FloatKind.f64.format.order a1 ni == some .eq) = true := by rw [e1]; simpa using h1
    clear h0 h1 l0 l1
    go_enter Try.func6, Try.ntmps6
    go_wp2_with (first | (go_at_call 22; (with_reducible refine (c_min2 _ _ _).mono ?_); rintro e w' ⟨rfl, hb⟩) | (go_at_call 23; (with_reducible refine (c_negInf _).mono ?_); rintro e w' ⟨rfl, rfl⟩) | (go_at_call 24; (with_reducible refine (isNan_yes (by assumption) _).mono ?_); rintro e w' ⟨rfl, rfl⟩) | (go_at_call 24; (with_reducible refine (isNan_no (by assumption) _).mono ?_); rintro e w' ⟨rfl, rfl⟩) | (go_at_call 25; (with_reducible refine (c_same (by assumption) _).mono ?_); rintro e w' ⟨rfl, rfl⟩) | (go_at_call 26; (with_reducible refine (c_negZero (by assumption) _).mono ?_); rintro e w' ⟨rfl, rfl⟩))
    go_ret
    exact ⟨rfl, hb⟩
  replace e0 : (FloatKind.f64.format.order a0 ni == some .eq) = false := by rw [e0]; simpa using h0
  replace e1 : (FloatKind.f64.format.order a1 ni == some .eq) = false := by rw [e1]; simpa using h1
  by_cases n0 : Fp.nan a0
  · have hm : Fp.nan (minW a0 a1) := by rw [minW_nan l0 l1 (by simp [h0, h1]) (.inl n0)]; decide
    clear h0 h1 l0 l1
    go_enter Try.func6, Try.ntmps6
    go_wp2_with (first | (go_at_call 22; (with_reducible refine (c_min2 _ _ _).mono ?_); rintro e w' ⟨rfl, hb⟩) | (go_at_call 23; (with_reducible refine (c_negInf _).mono ?_); rintro e w' ⟨rfl, rfl⟩) | (go_at_call 24; (with_reducible refine (isNan_yes (by assumption) _).mono ?_); rintro e w' ⟨rfl, rfl⟩) | (go_at_call 24; (with_reducible refine (isNan_no (by assumption) _).mono ?_); rintro e w' ⟨rfl, rfl⟩) | (go_at_call 25; (with_reducible refine (c_same (by assumption) _).mono ?_); rintro e w' ⟨rfl, rfl⟩) | (go_at_call 26; (with_reducible refine (c_negZero (by assumption) _).mono ?_); rintro e w' ⟨rfl, rfl⟩))
    go_ret
    exact ⟨rfl, hb⟩
  by_cases n1 : Fp.nan a1
  · have hm : Fp.nan (minW a0 a1) := by rw [minW_nan l0 l1 (by simp [h0, h1]) (.inr n1)]; decide
    clear h0 h1 l0 l1
    go_enter Try.func6, Try.ntmps6
    go_wp2_with (first | (go_at_call 22; (with_reducible refine (c_min2 _ _ _).mono ?_); rintro e w' ⟨rfl, hb⟩) | (go_at_call 23; (with_reducible refine (c_negInf _).mono ?_); rintro e w' ⟨rfl, rfl⟩) | (go_at_call 24; (with_reducible refine (isNan_yes (by assumption) _).mono ?_); rintro e w' ⟨rfl, rfl⟩) | (go_at_call 24; (with_reducible refine (isNan_no (by assumption) _).mono ?_); rintro e w' ⟨rfl, rfl⟩) | (go_at_call 25; (with_reducible refine (c_same (by assumption) _).mono ?_); rintro e w' ⟨rfl, rfl⟩) | (go_at_call 26; (with_reducible refine (c_negZero (by assumption) _).mono ?_); rintro e w' ⟨rfl, rfl⟩))
    go_ret
    exact ⟨rfl, hb⟩
  obtain ⟨m1, m2, m3, m4, m5, m6⟩ := minW_num l0 l1 n0 n1
  by_cases lt : Fp.ky a0 < Fp.ky a1
  · have t1 : (FloatKind.f64.format.order a0 a1 == some .lt) = true := by rw [f_lt n0 n1]; simpa using lt
    have hm : minW a0 a1 = a0 := by
      rcases m1 with h | h
      · exact h
      · rw [h] at m4; omega
    clear m1 m2 m3 m4 m5 m6 h0 h1 l0 l1 lt
    go_enter Try.func6, Try.ntmps6
    go_wp2_with (first | (go_at_call 22; (with_reducible refine (c_min2 _ _ _).mono ?_); rintro e w' ⟨rfl, hb⟩) | (go_at_call 23; (with_reducible refine (c_negInf _).mono ?_); rintro e w' ⟨rfl, rfl⟩) | (go_at_call 24; (with_reducible refine (isNan_yes (by assumption) _).mono ?_); rintro e w' ⟨rfl, rfl⟩) | (go_at_call 24; (with_reducible refine (isNan_no (by assumption) _).mono ?_); rintro e w' ⟨rfl, rfl⟩) | (go_at_call 25; (with_reducible refine (c_same (by assumption) _).mono ?_); rintro e w' ⟨rfl, rfl⟩) | (go_at_call 26; (with_reducible refine (c_negZero (by assumption) _).mono ?_); rintro e w' ⟨rfl, rfl⟩))
    go_ret
    exact ⟨rfl, hb⟩
  have t1 : (FloatKind.f64.format.order a0 a1 == some .lt) = false := by rw [f_lt n0 n1]; simpa using lt
  by_cases gt : Fp.ky a1 < Fp.ky a0
  · have t2 : (FloatKind.f64.format.order a1 a0 == some .lt) = true := by rw [f_lt n1 n0]; simpa using gt
    have hm : minW a0 a1 = a1 := by
      rcases m1 with h | h
      · rw [h] at m5; omega
      · exact h
    clear m1 m2 m3 m4 m5 m6 h0 h1 l0 l1 lt gt
    go_enter Try.func6, Try.ntmps6
    go_wp2_with (first | (go_at_call 22; (with_reducible refine (c_min2 _ _ _).mono ?_); rintro e w' ⟨rfl, hb⟩) | (go_at_call 23; (with_reducible refine (c_negInf _).mono ?_); rintro e w' ⟨rfl, rfl⟩) | (go_at_call 24; (with_reducible refine (isNan_yes (by assumption) _).mono ?_); rintro e w' ⟨rfl, rfl⟩) | (go_at_call 24; (with_reducible refine (isNan_no (by assumption) _).mono ?_); rintro e w' ⟨rfl, rfl⟩) | (go_at_call 25; (with_reducible refine (c_same (by assumption) _).mono ?_); rintro e w' ⟨rfl, rfl⟩) | (go_at_call 26; (with_reducible refine (c_negZero (by assumption) _).mono ?_); rintro e w' ⟨rfl, rfl⟩))
    go_ret
    exact ⟨rfl, hb⟩
  have t2 : (FloatKind.f64.format.order a1 a0 == some .lt) = false := by rw [f_lt n1 n0]; simpa using gt
  by_cases z : Fp.ky a0 = 0
  · have t3 : (FloatKind.f64.format.order a0 0 == some .eq) = true := by rw [f_eq n0 zero_nn, ky_zero]; simpa using z
    have km : Fp.ky (minW a0 a1) = 0 := by rcases m1 with h | h <;> rw [h] <;> omega
    have t4 : (FloatKind.f64.format.order (minW a0 a1) 0 == some .eq) = true := by rw [f_eq m2 zero_nn, ky_zero]; simpa using km
    have rz : Fp.rg (minW a0 a1) = 0 := by
      have := ky_val (minW a0 a1)
      cases hs : Fp.sg (minW a0 a1) <;> rw [hs] at this <;> simp at this <;> omega
    replace m6 := m6 rz
    have t5 : (nzB (minW a0 a1) == (nzB a0 || nzB a1)) = true := by simp [m6]
    have t6 : nzB a0 = true → nzB (minW a0 a1) = true := by intro h; simp [m6, h]
    have t7 : nzB a0 = false → nzB (minW a0 a1) = nzB a1 := by intro h; simp [m6, h]
    cases hz0 : nzB a0
    · replace t7 := t7 hz0
      clear m1 m3 m4 m5 m6 h0 h1 l0 l1 lt gt z km rz t5 t6
      go_enter Try.func6, Try.ntmps6
      go_wp2_with (first | (go_at_call 22; (with_reducible refine (c_min2 _ _ _).mono ?_); rintro e w' ⟨rfl, hb⟩) | (go_at_call 23; (with_reducible refine (c_negInf _).mono ?_); rintro e w' ⟨rfl, rfl⟩) | (go_at_call 24; (with_reducible refine (isNan_yes (by assumption) _).mono ?_); rintro e w' ⟨rfl, rfl⟩) | (go_at_call 24; (with_reducible refine (isNan_no (by assumption) _).mono ?_); rintro e w' ⟨rfl, rfl⟩) | (go_at_call 25; (with_reducible refine (c_same (by assumption) _).mono ?_); rintro e w' ⟨rfl, rfl⟩) | (go_at_call 26; (with_reducible refine (c_negZero (by assumption) _).mono ?_); rintro e w' ⟨rfl, rfl⟩))
      go_ret
      exact ⟨rfl, hb⟩
    · replace t6 := t6 hz0
      clear m1 m3 m4 m5 m6 h0 h1 l0 l1 lt gt z km rz t5 t7
      go_enter Try.func6, Try.ntmps6
      go_wp2_with (first | (go_at_call 22; (with_reducible refine (c_min2 _ _ _).mono ?_); rintro e w' ⟨rfl, hb⟩) | (go_at_call 23; (with_reducible refine (c_negInf _).mono ?_); rintro e w' ⟨rfl, rfl⟩) | (go_at_call 24; (with_reducible refine (isNan_yes (by assumption) _).mono ?_); rintro e w' ⟨rfl, rfl⟩) | (go_at_call 24; (with_reducible refine (isNan_no (by assumption) _).mono ?_); rintro e w' ⟨rfl, rfl⟩) | (go_at_call 25; (with_reducible refine (c_same (by assumption) _).mono ?_); rintro e w' ⟨rfl, rfl⟩) | (go_at_call 26; (with_reducible refine (c_negZero (by assumption) _).mono ?_); rintro e w' ⟨rfl, rfl⟩))
      go_ret
      exact ⟨rfl, hb⟩
  have t3 : (FloatKind.f64.format.order a0 0 == some .eq) = false := by rw [f_eq n0 zero_nn, ky_zero]; simpa using z
  have hm : minW a0 a1 = a0 := by
    rcases m1 with h | h
    · exact h
    · rw [h]; exact (eq_of_ky l0 l1 (by omega) z).symm
  clear m1 m2 m3 m4 m5 m6 h0 h1 l0 l1 lt gt z
  go_enter Try.func6, Try.ntmps6
  go_wp2_with (first | (go_at_call 22; (with_reducible refine (c_min2 _ _ _).mono ?_); rintro e w' ⟨rfl, hb⟩) | (go_at_call 23; (with_reducible refine (c_negInf _).mono ?_); rintro e w' ⟨rfl, rfl⟩) | (go_at_call 24; (with_reducible refine (isNan_yes (by assumption) _).mono ?_); rintro e w' ⟨rfl, rfl⟩) | (go_at_call 24; (with_reducible refine (isNan_no (by assumption) _).mono ?_); rintro e w' ⟨rfl, rfl⟩) | (go_at_call 25; (with_reducible refine (c_same (by assumption) _).mono ?_); rintro e w' ⟨rfl, rfl⟩) | (go_at_call 26; (with_reducible refine (c_negZero (by assumption) _).mono ?_); rintro e w' ⟨rfl, rfl⟩))
  go_ret
  exact ⟨rfl, hb⟩
end Go.Proofs.Ytbjbjhldigecmaa.fnMin2Exact
