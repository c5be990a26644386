/-
  What the law FnMin3Exact does, for every input. No condition.
-/
import Derived.Test.YtbjbjhldigecmaaMin
import Derived.Test.YtbjbjhldigecmaaKit
import Derived.WalkSmall
namespace Go.Proofs.Ytbjbjhldigecmaa.fnMin3Exact
open Go.ChangeShapes Go.WideShapes Go.ChangeAt Go.RowKit
set_option linter.unusedVariables false


theorem inf_case (a0 a1 a2 : Nat) (w : World) (l0 : a0 < 18446744073709551616) (l1 : a1 < 18446744073709551616) (l2 : a2 < 18446744073709551616)
    (lm : minW a0 a1 < 18446744073709551616) (h : a0 = ni ∨ a1 = ni ∨ a2 = ni) :
    Calls Try.prog 7 #[.float .f64 a0, .float .f64 a1, .float .f64 a2] w fun e w' => e = .returned (.bool true) ∧ Below w.heap.size w w' := by
  have hm : minW (minW a0 a1) a2 = ni := by
    rcases h with h | h | h
    · exact minW_inf lm l2 (.inl (minW_inf l0 l1 (.inl h)))
    · exact minW_inf lm l2 (.inl (minW_inf l0 l1 (.inr h)))
    · exact minW_inf lm l2 (.inr h)
  have em : (FloatKind.f64.format.order (minW (minW a0 a1) a2) ni == some .eq) = true := by rw [hm, f_eq ni_nn ni_nn]; simp
  have e0 := eq_ni l0
  have e1 := eq_ni l1
  have e2 := eq_ni l2
  clear hm lm
  by_cases h0 : a0 = ni
  · replace e0 : (FloatKind.f64.format.order a0 ni == some .eq) = true := by rw [e0]; simpa using h0
    clear l0 l1 l2 h h0 e1 e2
    go_enter Try.func7, Try.ntmps7
    go_wp2_with (first | (go_at_call 27; (with_reducible refine (c_min3 _ _ _ _).mono ?_); rintro e w' ⟨rfl, hb⟩) | (go_at_call 23; (with_reducible refine (c_negInf _).mono ?_); rintro e w' ⟨rfl, rfl⟩) | (go_at_call 24; (with_reducible refine (isNan_yes (by assumption) _).mono ?_); rintro e w' ⟨rfl, rfl⟩) | (go_at_call 24; (with_reducible refine (isNan_no (by assumption) _).mono ?_); rintro e w' ⟨rfl, rfl⟩) | (go_at_call 25; (with_reducible refine (c_same (by assumption) _).mono ?_); rintro e w' ⟨rfl, rfl⟩) | (go_at_call 26; (with_reducible refine (c_negZero (by assumption) _).mono ?_); rintro e w' ⟨rfl, rfl⟩))
    go_ret
    exact ⟨rfl, hb⟩
  replace e0 : (FloatKind.f64.format.order a0 ni == some .eq) = false := by rw [e0]; simpa using h0
  by_cases h1 : a1 = ni
  · replace e1 : (FloatKind.f64.format.order a1 ni == some .eq) = true := by rw [e1]; simpa using h1
    clear l0 l1 l2 h h0 h1 e2
    go_enter Try.func7, Try.ntmps7
    go_wp2_with (first | (go_at_call 27; (with_reducible refine (c_min3 _ _ _ _).mono ?_); rintro e w' ⟨rfl, hb⟩) | (go_at_call 23; (with_reducible refine (c_negInf _).mono ?_); rintro e w' ⟨rfl, rfl⟩) | (go_at_call 24; (with_reducible refine (isNan_yes (by assumption) _).mono ?_); rintro e w' ⟨rfl, rfl⟩) | (go_at_call 24; (with_reducible refine (isNan_no (by assumption) _).mono ?_); rintro e w' ⟨rfl, rfl⟩) | (go_at_call 25; (with_reducible refine (c_same (by assumption) _).mono ?_); rintro e w' ⟨rfl, rfl⟩) | (go_at_call 26; (with_reducible refine (c_negZero (by assumption) _).mono ?_); rintro e w' ⟨rfl, rfl⟩))
    go_ret
    exact ⟨rfl, hb⟩
  replace e1 : (FloatKind.f64.format.order a1 ni == some .eq) = false := by rw [e1]; simpa using h1
  have h2 : a2 = ni := by simpa [h0, h1] using h
  replace e2 : (FloatKind.f64.format.order a2 ni == some .eq) = true := by rw [e2]; simpa using h2
  clear l0 l1 l2 h h0 h1 h2
  go_enter Try.func7, Try.ntmps7
  go_wp2_with (first | (go_at_call 27; (with_reducible refine (c_min3 _ _ _ _).mono ?_); rintro e w' ⟨rfl, hb⟩) | (go_at_call 23; (with_reducible refine (c_negInf _).mono ?_); rintro e w' ⟨rfl, rfl⟩) | (go_at_call 24; (with_reducible refine (isNan_yes (by assumption) _).mono ?_); rintro e w' ⟨rfl, rfl⟩) | (go_at_call 24; (with_reducible refine (isNan_no (by assumption) _).mono ?_); rintro e w' ⟨rfl, rfl⟩) | (go_at_call 25; (with_reducible refine (c_same (by assumption) _).mono ?_); rintro e w' ⟨rfl, rfl⟩) | (go_at_call 26; (with_reducible refine (c_negZero (by assumption) _).mono ?_); rintro e w' ⟨rfl, rfl⟩))
  go_ret
  exact ⟨rfl, hb⟩

theorem nan_case (a0 a1 a2 m : Nat) (w : World) (hm : Fp.nan m) (hmin : minW (minW a0 a1) a2 = m)
    (e0 : (FloatKind.f64.format.order a0 ni == some .eq) = false) (e1 : (FloatKind.f64.format.order a1 ni == some .eq) = false) (e2 : (FloatKind.f64.format.order a2 ni == some .eq) = false)
    (h : Fp.nan a0 ∨ Fp.nan a1 ∨ Fp.nan a2) :
    Calls Try.prog 7 #[.float .f64 a0, .float .f64 a1, .float .f64 a2] w fun e w' => e = .returned (.bool true) ∧ Below w.heap.size w w' := by
  by_cases n0 : Fp.nan a0
  · clear h
    go_enter Try.func7, Try.ntmps7
    go_wp2_with (first | (go_at_call 27; (with_reducible refine (c_min3 _ _ _ _).mono ?_); rintro e w' ⟨rfl, hb⟩) | (go_at_call 23; (with_reducible refine (c_negInf _).mono ?_); rintro e w' ⟨rfl, rfl⟩) | (go_at_call 24; (with_reducible refine (isNan_yes (by assumption) _).mono ?_); rintro e w' ⟨rfl, rfl⟩) | (go_at_call 24; (with_reducible refine (isNan_no (by assumption) _).mono ?_); rintro e w' ⟨rfl, rfl⟩) | (go_at_call 25; (with_reducible refine (c_same (by assumption) _).mono ?_); rintro e w' ⟨rfl, rfl⟩) | (go_at_call 26; (with_reducible refine (c_negZero (by assumption) _).mono ?_); rintro e w' ⟨rfl, rfl⟩))
    go_ret
    exact ⟨rfl, hb⟩
  by_cases n1 : Fp.nan a1
  · clear h
    go_enter Try.func7, Try.ntmps7
    go_wp2_with (first | (go_at_call 27; (with_reducible refine (c_min3 _ _ _ _).mono ?_); rintro e w' ⟨rfl, hb⟩) | (go_at_call 23; (with_reducible refine (c_negInf _).mono ?_); rintro e w' ⟨rfl, rfl⟩) | (go_at_call 24; (with_reducible refine (isNan_yes (by assumption) _).mono ?_); rintro e w' ⟨rfl, rfl⟩) | (go_at_call 24; (with_reducible refine (isNan_no (by assumption) _).mono ?_); rintro e w' ⟨rfl, rfl⟩) | (go_at_call 25; (with_reducible refine (c_same (by assumption) _).mono ?_); rintro e w' ⟨rfl, rfl⟩) | (go_at_call 26; (with_reducible refine (c_negZero (by assumption) _).mono ?_); rintro e w' ⟨rfl, rfl⟩))
    go_ret
    exact ⟨rfl, hb⟩
  have n2 : Fp.nan a2 := by simpa [n0, n1] using h
  clear h
  go_enter Try.func7, Try.ntmps7
  go_wp2_with (first | (go_at_call 27; (with_reducible refine (c_min3 _ _ _ _).mono ?_); rintro e w' ⟨rfl, hb⟩) | (go_at_call 23; (with_reducible refine (c_negInf _).mono ?_); rintro e w' ⟨rfl, rfl⟩) | (go_at_call 24; (with_reducible refine (isNan_yes (by assumption) _).mono ?_); rintro e w' ⟨rfl, rfl⟩) | (go_at_call 24; (with_reducible refine (isNan_no (by assumption) _).mono ?_); rintro e w' ⟨rfl, rfl⟩) | (go_at_call 25; (with_reducible refine (c_same (by assumption) _).mono ?_); rintro e w' ⟨rfl, rfl⟩) | (go_at_call 26; (with_reducible refine (c_negZero (by assumption) _).mono ?_); rintro e w' ⟨rfl, rfl⟩))
  go_ret
  exact ⟨rfl, hb⟩

theorem num_case (a0 a1 a2 m : Nat) (w : World) (hmin : minW (minW a0 a1) a2 = m) (hm : ¬ Fp.nan m)
    (e0 : (FloatKind.f64.format.order a0 ni == some .eq) = false) (e1 : (FloatKind.f64.format.order a1 ni == some .eq) = false) (e2 : (FloatKind.f64.format.order a2 ni == some .eq) = false)
    (n0 : ¬ Fp.nan a0) (n1 : ¬ Fp.nan a1) (n2 : ¬ Fp.nan a2) (k0 : Fp.ky m ≤ Fp.ky a0) (k1 : Fp.ky m ≤ Fp.ky a1) (k2 : Fp.ky m ≤ Fp.ky a2)
    (one : m = a0 ∨ m = a1 ∨ m = a2) (hz : Fp.ky m = 0 → nzB m = (nzB a0 || (nzB a1 || nzB a2))) :
    Calls Try.prog 7 #[.float .f64 a0, .float .f64 a1, .float .f64 a2] w fun e w' => e = .returned (.bool true) ∧ Below w.heap.size w w' := by
  have le : ∀ {x}, ¬ Fp.nan x → Fp.ky m ≤ Fp.ky x → (FloatKind.f64.format.order m x == some .lt || FloatKind.f64.format.order m x == some .eq) = true := by
    intro x hx h; rw [f_lt hm hx, f_eq hm hx]; simp; omega
  have lts : ∀ {x}, ¬ Fp.nan x → Fp.ky m ≤ Fp.ky x → Fp.ky m ≠ Fp.ky x → (FloatKind.f64.format.order m x == some .lt) = true ∧ (FloatKind.f64.format.order m x == some .eq) = false := by
    intro x hx h hne; rw [f_lt hm hx, f_eq hm hx]; simp; omega
  have eqs : ∀ {x}, ¬ Fp.nan x → Fp.ky m = Fp.ky x → (FloatKind.f64.format.order m x == some .eq) = true := by
    intro x hx h; rw [f_eq hm hx]; simpa using h
  have zz := f_eq hm zero_nn
  rw [ky_zero] at zz
  by_cases b0 : Fp.ky m = Fp.ky a0
  · have q0 := eqs n0 b0
    have g1 := le n1 k1
    have g2 := le n2 k2
    by_cases z : Fp.ky m = 0
    · replace zz : (FloatKind.f64.format.order m 0 == some .eq) = true := by rw [zz]; simpa using z
      replace hz := hz z
      clear z le lts eqs k0 k1 k2 one b0
      cases c0 : nzB a0
      · cases c1 : nzB a1
        · replace hz : nzB m = nzB a2 := by rw [hz, c0, c1]; rfl
          go_enter Try.func7, Try.ntmps7
          go_wp2_with (first | (go_at_call 27; (with_reducible refine (c_min3 _ _ _ _).mono ?_); rintro e w' ⟨rfl, hb⟩) | (go_at_call 23; (with_reducible refine (c_negInf _).mono ?_); rintro e w' ⟨rfl, rfl⟩) | (go_at_call 24; (with_reducible refine (isNan_yes (by assumption) _).mono ?_); rintro e w' ⟨rfl, rfl⟩) | (go_at_call 24; (with_reducible refine (isNan_no (by assumption) _).mono ?_); rintro e w' ⟨rfl, rfl⟩) | (go_at_call 25; (with_reducible refine (c_same (by assumption) _).mono ?_); rintro e w' ⟨rfl, rfl⟩) | (go_at_call 26; (with_reducible refine (c_negZero (by assumption) _).mono ?_); rintro e w' ⟨rfl, rfl⟩))
          go_ret
          exact ⟨rfl, hb⟩
        · replace hz : nzB m = true := by rw [hz, c0, c1]; rfl
          go_enter Try.func7, Try.ntmps7
          go_wp2_with (first | (go_at_call 27; (with_reducible refine (c_min3 _ _ _ _).mono ?_); rintro e w' ⟨rfl, hb⟩) | (go_at_call 23; (with_reducible refine (c_negInf _).mono ?_); rintro e w' ⟨rfl, rfl⟩) | (go_at_call 24; (with_reducible refine (isNan_yes (by assumption) _).mono ?_); rintro e w' ⟨rfl, rfl⟩) | (go_at_call 24; (with_reducible refine (isNan_no (by assumption) _).mono ?_); rintro e w' ⟨rfl, rfl⟩) | (go_at_call 25; (with_reducible refine (c_same (by assumption) _).mono ?_); rintro e w' ⟨rfl, rfl⟩) | (go_at_call 26; (with_reducible refine (c_negZero (by assumption) _).mono ?_); rintro e w' ⟨rfl, rfl⟩))
          go_ret
          exact ⟨rfl, hb⟩
      · replace hz : nzB m = true := by rw [hz, c0]; rfl
        go_enter Try.func7, Try.ntmps7
        go_wp2_with (first | (go_at_call 27; (with_reducible refine (c_min3 _ _ _ _).mono ?_); rintro e w' ⟨rfl, hb⟩) | (go_at_call 23; (with_reducible refine (c_negInf _).mono ?_); rintro e w' ⟨rfl, rfl⟩) | (go_at_call 24; (with_reducible refine (isNan_yes (by assumption) _).mono ?_); rintro e w' ⟨rfl, rfl⟩) | (go_at_call 24; (with_reducible refine (isNan_no (by assumption) _).mono ?_); rintro e w' ⟨rfl, rfl⟩) | (go_at_call 25; (with_reducible refine (c_same (by assumption) _).mono ?_); rintro e w' ⟨rfl, rfl⟩) | (go_at_call 26; (with_reducible refine (c_negZero (by assumption) _).mono ?_); rintro e w' ⟨rfl, rfl⟩))
        go_ret
        exact ⟨rfl, hb⟩
    · replace zz : (FloatKind.f64.format.order m 0 == some .eq) = false := by rw [zz]; simpa using z
      clear z hz le lts eqs k0 k1 k2 one b0
      go_enter Try.func7, Try.ntmps7
      go_wp2_with (first | (go_at_call 27; (with_reducible refine (c_min3 _ _ _ _).mono ?_); rintro e w' ⟨rfl, hb⟩) | (go_at_call 23; (with_reducible refine (c_negInf _).mono ?_); rintro e w' ⟨rfl, rfl⟩) | (go_at_call 24; (with_reducible refine (isNan_yes (by assumption) _).mono ?_); rintro e w' ⟨rfl, rfl⟩) | (go_at_call 24; (with_reducible refine (isNan_no (by assumption) _).mono ?_); rintro e w' ⟨rfl, rfl⟩) | (go_at_call 25; (with_reducible refine (c_same (by assumption) _).mono ?_); rintro e w' ⟨rfl, rfl⟩) | (go_at_call 26; (with_reducible refine (c_negZero (by assumption) _).mono ?_); rintro e w' ⟨rfl, rfl⟩))
      go_ret
      exact ⟨rfl, hb⟩
  obtain ⟨l0, q0⟩ := lts n0 k0 b0
  by_cases b1 : Fp.ky m = Fp.ky a1
  · have q1 := eqs n1 b1
    have g2 := le n2 k2
    by_cases z : Fp.ky m = 0
    · replace zz : (FloatKind.f64.format.order m 0 == some .eq) = true := by rw [zz]; simpa using z
      replace hz := hz z
      clear z le lts eqs k0 k1 k2 one b0 b1
      cases c0 : nzB a0
      · cases c1 : nzB a1
        · replace hz : nzB m = nzB a2 := by rw [hz, c0, c1]; rfl
          go_enter Try.func7, Try.ntmps7
          go_wp2_with (first | (go_at_call 27; (with_reducible refine (c_min3 _ _ _ _).mono ?_); rintro e w' ⟨rfl, hb⟩) | (go_at_call 23; (with_reducible refine (c_negInf _).mono ?_); rintro e w' ⟨rfl, rfl⟩) | (go_at_call 24; (with_reducible refine (isNan_yes (by assumption) _).mono ?_); rintro e w' ⟨rfl, rfl⟩) | (go_at_call 24; (with_reducible refine (isNan_no (by assumption) _).mono ?_); rintro e w' ⟨rfl, rfl⟩) | (go_at_call 25; (with_reducible refine (c_same (by assumption) _).mono ?_); rintro e w' ⟨rfl, rfl⟩) | (go_at_call 26; (with_reducible refine (c_negZero (by assumption) _).mono ?_); rintro e w' ⟨rfl, rfl⟩))
          go_ret
          exact ⟨rfl, hb⟩
        · replace hz : nzB m = true := by rw [hz, c0, c1]; rfl
          go_enter Try.func7, Try.ntmps7
          go_wp2_with (first | (go_at_call 27; (with_reducible refine (c_min3 _ _ _ _).mono ?_); rintro e w' ⟨rfl, hb⟩) | (go_at_call 23; (with_reducible refine (c_negInf _).mono ?_); rintro e w' ⟨rfl, rfl⟩) | (go_at_call 24; (with_reducible refine (isNan_yes (by assumption) _).mono ?_); rintro e w' ⟨rfl, rfl⟩) | (go_at_call 24; (with_reducible refine (isNan_no (by assumption) _).mono ?_); rintro e w' ⟨rfl, rfl⟩) | (go_at_call 25; (with_reducible refine (c_same (by assumption) _).mono ?_); rintro e w' ⟨rfl, rfl⟩) | (go_at_call 26; (with_reducible refine (c_negZero (by assumption) _).mono ?_); rintro e w' ⟨rfl, rfl⟩))
          go_ret
          exact ⟨rfl, hb⟩
      · replace hz : nzB m = true := by rw [hz, c0]; rfl
        go_enter Try.func7, Try.ntmps7
        go_wp2_with (first | (go_at_call 27; (with_reducible refine (c_min3 _ _ _ _).mono ?_); rintro e w' ⟨rfl, hb⟩) | (go_at_call 23; (with_reducible refine (c_negInf _).mono ?_); rintro e w' ⟨rfl, rfl⟩) | (go_at_call 24; (with_reducible refine (isNan_yes (by assumption) _).mono ?_); rintro e w' ⟨rfl, rfl⟩) | (go_at_call 24; (with_reducible refine (isNan_no (by assumption) _).mono ?_); rintro e w' ⟨rfl, rfl⟩) | (go_at_call 25; (with_reducible refine (c_same (by assumption) _).mono ?_); rintro e w' ⟨rfl, rfl⟩) | (go_at_call 26; (with_reducible refine (c_negZero (by assumption) _).mono ?_); rintro e w' ⟨rfl, rfl⟩))
        go_ret
        exact ⟨rfl, hb⟩
    · replace zz : (FloatKind.f64.format.order m 0 == some .eq) = false := by rw [zz]; simpa using z
      clear z hz le lts eqs k0 k1 k2 one b0 b1
      go_enter Try.func7, Try.ntmps7
      go_wp2_with (first | (go_at_call 27; (with_reducible refine (c_min3 _ _ _ _).mono ?_); rintro e w' ⟨rfl, hb⟩) | (go_at_call 23; (with_reducible refine (c_negInf _).mono ?_); rintro e w' ⟨rfl, rfl⟩) | (go_at_call 24; (with_reducible refine (isNan_yes (by assumption) _).mono ?_); rintro e w' ⟨rfl, rfl⟩) | (go_at_call 24; (with_reducible refine (isNan_no (by assumption) _).mono ?_); rintro e w' ⟨rfl, rfl⟩) | (go_at_call 25; (with_reducible refine (c_same (by assumption) _).mono ?_); rintro e w' ⟨rfl, rfl⟩) | (go_at_call 26; (with_reducible refine (c_negZero (by assumption) _).mono ?_); rintro e w' ⟨rfl, rfl⟩))
      go_ret
      exact ⟨rfl, hb⟩
  obtain ⟨l1, q1⟩ := lts n1 k1 b1
  have b2 : Fp.ky m = Fp.ky a2 := by
    rcases one with h | h | h
    · exact absurd (by rw [h]) b0
    · exact absurd (by rw [h]) b1
    · rw [h]
  have q2 := eqs n2 b2
  by_cases z : Fp.ky m = 0
  · replace zz : (FloatKind.f64.format.order m 0 == some .eq) = true := by rw [zz]; simpa using z
    replace hz := hz z
    clear z le lts eqs k0 k1 k2 one b0 b1 b2
    cases c0 : nzB a0
    · cases c1 : nzB a1
      · replace hz : nzB m = nzB a2 := by rw [hz, c0, c1]; rfl
        go_enter Try.func7, Try.ntmps7
        go_wp2_with (first | (go_at_call 27; (with_reducible refine (c_min3 _ _ _ _).mono ?_); rintro e w' ⟨rfl, hb⟩) | (go_at_call 23; (with_reducible refine (c_negInf _).mono ?_); rintro e w' ⟨rfl, rfl⟩) | (go_at_call 24; (with_reducible refine (isNan_yes (by assumption) _).mono ?_); rintro e w' ⟨rfl, rfl⟩) | (go_at_call 24; (with_reducible refine (isNan_no (by assumption) _).mono ?_); rintro e w' ⟨rfl, rfl⟩) | (go_at_call 25; (with_reducible refine (c_same (by assumption) _).mono ?_); rintro e w' ⟨rfl, rfl⟩) | (go_at_call 26; (with_reducible refine (c_negZero (by assumption) _).mono ?_); rintro e w' ⟨rfl, rfl⟩))
        go_ret
        exact ⟨rfl, hb⟩
      · replace hz : nzB m = true := by rw [hz, c0, c1]; rfl
        go_enter Try.func7, Try.ntmps7
        go_wp2_with (first | (go_at_call 27; (with_reducible refine (c_min3 _ _ _ _).mono ?_); rintro e w' ⟨rfl, hb⟩) | (go_at_call 23; (with_reducible refine (c_negInf _).mono ?_); rintro e w' ⟨rfl, rfl⟩) | (go_at_call 24; (with_reducible refine (isNan_yes (by assumption) _).mono ?_); rintro e w' ⟨rfl, rfl⟩) | (go_at_call 24; (with_reducible refine (isNan_no (by assumption) _).mono ?_); rintro e w' ⟨rfl, rfl⟩) | (go_at_call 25; (with_reducible refine (c_same (by assumption) _).mono ?_); rintro e w' ⟨rfl, rfl⟩) | (go_at_call 26; (with_reducible refine (c_negZero (by assumption) _).mono ?_); rintro e w' ⟨rfl, rfl⟩))
        go_ret
        exact ⟨rfl, hb⟩
    · replace hz : nzB m = true := by rw [hz, c0]; rfl
      go_enter Try.func7, Try.ntmps7
      go_wp2_with (first | (go_at_call 27; (with_reducible refine (c_min3 _ _ _ _).mono ?_); rintro e w' ⟨rfl, hb⟩) | (go_at_call 23; (with_reducible refine (c_negInf _).mono ?_); rintro e w' ⟨rfl, rfl⟩) | (go_at_call 24; (with_reducible refine (isNan_yes (by assumption) _).mono ?_); rintro e w' ⟨rfl, rfl⟩) | (go_at_call 24; (with_reducible refine (isNan_no (by assumption) _).mono ?_); rintro e w' ⟨rfl, rfl⟩) | (go_at_call 25; (with_reducible refine (c_same (by assumption) _).mono ?_); rintro e w' ⟨rfl, rfl⟩) | (go_at_call 26; (with_reducible refine (c_negZero (by assumption) _).mono ?_); rintro e w' ⟨rfl, rfl⟩))
      go_ret
      exact ⟨rfl, hb⟩
  · replace zz : (FloatKind.f64.format.order m 0 == some .eq) = false := by rw [zz]; simpa using z
    clear z hz le lts eqs k0 k1 k2 one b0 b1 b2
    go_enter Try.func7, Try.ntmps7
    go_wp2_with (first | (go_at_call 27; (with_reducible refine (c_min3 _ _ _ _).mono ?_); rintro e w' ⟨rfl, hb⟩) | (go_at_call 23; (with_reducible refine (c_negInf _).mono ?_); rintro e w' ⟨rfl, rfl⟩) | (go_at_call 24; (with_reducible refine (isNan_yes (by assumption) _).mono ?_); rintro e w' ⟨rfl, rfl⟩) | (go_at_call 24; (with_reducible refine (isNan_no (by assumption) _).mono ?_); rintro e w' ⟨rfl, rfl⟩) | (go_at_call 25; (with_reducible refine (c_same (by assumption) _).mono ?_); rintro e w' ⟨rfl, rfl⟩) | (go_at_call 26; (with_reducible refine (c_negZero (by assumption) _).mono ?_); rintro e w' ⟨rfl, rfl⟩))
    go_ret
    exact ⟨rfl, hb⟩
theorem walk (a0 : Nat) (a1 : Nat) (a2 : Nat) (w : World) (w0 : (Lit.float .f64 a0).wf = true) (w1 : (Lit.float .f64 a1).wf = true) (w2 : (Lit.float .f64 a2).wf = true) :
    Calls Try.prog 7 #[.float .f64 a0, .float .f64 a1, .float .f64 a2] w fun e w' => e = .returned (.bool true) ∧ Below w.heap.size w w' := by
  have l0 := f64_range w0
  have l1 := f64_range w1
  have l2 := f64_range w2
  have lm : minW a0 a1 < 18446744073709551616 := by
    rw [minW_eq l0 l1]
    split
    · decide
    · split
      · decide
      · split
        · split <;> assumption
        · split <;> assumption
  by_cases hi : a0 = ni ∨ a1 = ni ∨ a2 = ni
  · exact inf_case a0 a1 a2 w l0 l1 l2 lm hi
  have i0 : ¬ a0 = ni := fun c => hi (.inl c)
  have i1 : ¬ a1 = ni := fun c => hi (.inr (.inl c))
  have i2 : ¬ a2 = ni := fun c => hi (.inr (.inr c))
  have e0 : (FloatKind.f64.format.order a0 ni == some .eq) = false := by rw [eq_ni l0]; simpa using i0
  have e1 : (FloatKind.f64.format.order a1 ni == some .eq) = false := by rw [eq_ni l1]; simpa using i1
  have e2 : (FloatKind.f64.format.order a2 ni == some .eq) = false := by rw [eq_ni l2]; simpa using i2
  by_cases n0 : Fp.nan a0 ∨ Fp.nan a1
  · have em := minW_nan l0 l1 (by simp [i0, i1]) n0
    have em2 : minW (minW a0 a1) a2 = 0x7FF8000000000001 := by rw [em]; exact minW_nan (by decide) l2 (fun h => h.elim (fun c => absurd c (by decide)) i2) (.inl (by decide))
    exact nan_case a0 a1 a2 _ w (by decide) em2 e0 e1 e2 (by rcases n0 with h | h <;> simp [h])
  have n0' : ¬ Fp.nan a0 := fun c => n0 (.inl c)
  have n1' : ¬ Fp.nan a1 := fun c => n0 (.inr c)
  obtain ⟨m1, m2, m3, m4, m5, m6⟩ := minW_num l0 l1 n0' n1'
  have im : ¬ minW a0 a1 = ni := by rcases m1 with h | h <;> rw [h] <;> assumption
  by_cases n2 : Fp.nan a2
  · have em2 : minW (minW a0 a1) a2 = 0x7FF8000000000001 := minW_nan m3 l2 (by simp [im, i2]) (.inr n2)
    exact nan_case a0 a1 a2 _ w (by decide) em2 e0 e1 e2 (by simp [n2])
  obtain ⟨p1, p2, p3, p4, p5, p6⟩ := minW_num m3 l2 m2 n2
  refine num_case a0 a1 a2 _ w rfl p2 e0 e1 e2 n0' n1' n2 (by omega) (by omega) p5 ?_ ?_
  · rcases p1 with h | h
    · rw [h]; rcases m1 with h2 | h2
      · exact .inl h2
      · exact .inr (.inl h2)
    · exact .inr (.inr h)
  · intro hz
    have rz : ∀ x, Fp.ky x = 0 → Fp.rg x = 0 := by
      intro x hx
      have := ky_val x
      cases hs : Fp.sg x <;> rw [hs] at this <;> simp at this <;> omega
    have q := p6 (rz _ hz)
    rw [q]
    by_cases hz2 : Fp.ky (minW a0 a1) = 0
    · rw [m6 (rz _ hz2), Bool.or_assoc]
    · -- then the first minimum is positive, and so are both of its operands
      have hpos : 0 < Fp.ky (minW a0 a1) := by omega
      have nz : ∀ x, 0 < Fp.ky x → nzB x = false := by
        intro x hx
        have : ¬ Fp.rg x = 0 := by
          have hv := ky_val x
          cases hs : Fp.sg x <;> rw [hs] at hv <;> simp at hv <;> omega
        simp [nzB, this]
      rw [nz _ hpos, nz a0 (by omega), nz a1 (by omega)]; rfl
end Go.Proofs.Ytbjbjhldigecmaa.fnMin3Exact
