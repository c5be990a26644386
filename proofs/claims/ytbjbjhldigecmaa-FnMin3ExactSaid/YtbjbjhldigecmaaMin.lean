/-
  What math.Min gives, in plain words, and contracts of the small functions of the laws on it. No condition.
-/
import Derived.Test.YtbjbjhldigecmaaExt
import Derived.StillTailTactics
import Derived.WalkSmall
namespace Go.Proofs.Ytbjbjhldigecmaa
open Go.ChangeShapes Go.WideShapes Go.ChangeAt Go.RowKit

/-- The word of minus infinity. -/
def ni : Nat := 18442240474082181120
theorem ni_wd : Fp.wd true 9218868437227405312 = ni := rfl
theorem ni_nn : ¬ Fp.nan ni := by decide
theorem ky_ni : Fp.ky ni = -9218868437227405312 := by decide

theorem isInf_iff {x : Nat} (h : x < 18446744073709551616) : (Ieee.double.read x == .infinity true) = decide (x = ni) := by
  by_cases hx : x = ni
  · subst hx; decide
  · have hne : Ieee.double.read x ≠ .infinity true := by
      intro hd
      rw [Fp.read_eq] at hd
      have hr : Fp.rg x = 9218868437227405312 ∧ Fp.sg x = true := by
        unfold Fp.dec at hd
        split at hd
        · cases hd
        · split at hd
          · cases hd
          · split at hd
            · rename_i hr; exact ⟨hr, by simpa using hd⟩
            · cases hd
      have := Fp.wd_sg_rg h
      rw [hr.1, hr.2] at this
      exact hx (this.symm.trans ni_wd)
    simp [hne, hx]
theorem isZero_iff {x : Nat} : (Ieee.double.read x).isZero = decide (Fp.rg x = 0) := by
  rw [Fp.read_eq]
  by_cases h1 : Fp.rg x < 9218868437227405312
  · obtain ⟨m, k, e, _, hz⟩ := Fp.dec_num (s := Fp.sg x) h1
    rw [e]
    by_cases h0 : Fp.rg x = 0
    · rw [hz.2 h0]; simp [Ieee.Datum.isZero, h0]
    · have : m ≠ 0 := fun c => h0 (hz.1 c)
      cases m with
      | zero => exact absurd rfl this
      | succ m => simp [Ieee.Datum.isZero, h0]
  · have h0 : ¬ Fp.rg x = 0 := by omega
    unfold Fp.dec
    rw [if_neg (by omega), if_neg h1]
    split <;> simp [Ieee.Datum.isZero, h0]
theorem neg_iff (x : Nat) : (Ieee.double.read x).neg = Fp.sg x := by
  rw [Fp.read_eq]; unfold Fp.dec; split
  · rfl
  · split
    · rfl
    · split <;> rfl

/-- Math.Min, by signed rungs. -/
theorem minW_eq {x y : Nat} (hx : x < 18446744073709551616) (hy : y < 18446744073709551616) : minW x y =
    if x = ni ∨ y = ni then ni else if Fp.nan x ∨ Fp.nan y then 0x7FF8000000000001
    else if Fp.rg x = 0 ∧ Fp.rg y = 0 then (if Fp.sg x then x else y) else if Fp.ky x < Fp.ky y then x else y := by
  unfold minW
  rw [isInf_iff hx, isInf_iff hy, isZero_iff, isZero_iff, neg_iff, ni_wd]
  by_cases h1 : x = ni ∨ y = ni
  · rw [if_pos h1, if_pos (by simpa using h1)]
  · rw [if_neg h1, if_neg (by simpa using h1)]
    by_cases h2 : Fp.nan x ∨ Fp.nan y
    · rw [if_pos h2, if_pos]
      rcases h2 with h | h
      · rw [(Fp.isNaN_iff x).2 h]; rfl
      · rw [(Fp.isNaN_iff y).2 h]; simp
    · have hx2 : ¬ Fp.nan x := fun c => h2 (.inl c)
      have hy2 : ¬ Fp.nan y := fun c => h2 (.inr c)
      have n1 : (Ieee.double.read x).isNaN = false := by
        cases hd : (Ieee.double.read x).isNaN
        · rfl
        · exact absurd ((Fp.isNaN_iff x).1 hd) hx2
      have n2 : (Ieee.double.read y).isNaN = false := by
        cases hd : (Ieee.double.read y).isNaN
        · rfl
        · exact absurd ((Fp.isNaN_iff y).1 hd) hy2
      rw [if_neg h2, n1, n2, if_neg (by simp)]
      by_cases h3 : Fp.rg x = 0 ∧ Fp.rg y = 0
      · rw [if_pos h3, if_pos (by simpa using h3)]
        cases Fp.sg x <;> rfl
      · rw [if_neg h3, if_neg (by simpa using h3)]
        have h4 : ((Ieee.double.read x).order (Ieee.double.read y) == some Ordering.lt) = decide (Fp.ky x < Fp.ky y) := f_lt hx2 hy2
        rw [h4]
        simp

/-- Is it the negative zero? -/
def nzB (x : Nat) : Bool := decide (Fp.rg x = 0) && Fp.sg x

/-- Of two numbers: one of them, no greater than either; a zero is negative where one of them is a negative zero. -/
theorem minW_num {x y : Nat} (hx : x < 18446744073709551616) (hy : y < 18446744073709551616) (nx : ¬ Fp.nan x) (ny : ¬ Fp.nan y) :
    (minW x y = x ∨ minW x y = y) ∧ ¬ Fp.nan (minW x y) ∧ minW x y < 18446744073709551616 ∧ Fp.ky (minW x y) ≤ Fp.ky x ∧ Fp.ky (minW x y) ≤ Fp.ky y ∧ (Fp.rg (minW x y) = 0 → nzB (minW x y) = (nzB x || nzB y)) := by
  have kx := ky_val x
  have kyv := ky_val y
  have bx : Fp.rg x ≤ 9218868437227405312 := by unfold Fp.nan at nx; omega
  have by' : Fp.rg y ≤ 9218868437227405312 := by unfold Fp.nan at ny; omega
  have lo : ∀ z, Fp.ky z = (if Fp.sg z then -(Fp.rg z : Int) else Fp.rg z) := ky_val
  rw [minW_eq hx hy]
  by_cases h1 : x = ni ∨ y = ni
  · rw [if_pos h1]
    have hk := ky_ni
    refine ⟨by rcases h1 with h | h <;> simp [h], ni_nn, by decide, ?_, ?_, fun h => absurd h (by decide)⟩
    · rw [hk, kx]; split <;> omega
    · rw [hk, kyv]; split <;> omega
  · rw [if_neg h1, if_neg (by simp [nx, ny])]
    by_cases h3 : Fp.rg x = 0 ∧ Fp.rg y = 0
    · rw [if_pos h3]
      cases hs : Fp.sg x
      · simp only [Bool.false_eq_true, if_false]
        refine ⟨by simp, ny, hy, ?_, by omega, fun _ => ?_⟩
        · rw [kx, kyv, hs, h3.1, h3.2]; simp
        · simp [nzB, hs]
      · simp only [if_true]
        refine ⟨by simp, nx, hx, by omega, ?_, fun _ => ?_⟩
        · rw [kx, kyv, hs, h3.1, h3.2]; simp
        · simp [nzB, hs, h3.1]
    · rw [if_neg h3]
      by_cases h4 : Fp.ky x < Fp.ky y
      · rw [if_pos h4]
        refine ⟨by simp, nx, hx, by omega, by omega, fun h0 => ?_⟩
        have : ¬ Fp.rg y = 0 := fun c => h3 ⟨h0, c⟩
        simp [nzB, this]
      · rw [if_neg h4]
        refine ⟨by simp, ny, hy, by omega, by omega, fun h0 => ?_⟩
        have : ¬ Fp.rg x = 0 := fun c => h3 ⟨c, h0⟩
        simp [nzB, this]
theorem minW_nan {x y : Nat} (hx : x < 18446744073709551616) (hy : y < 18446744073709551616) (h1 : ¬ (x = ni ∨ y = ni)) (h2 : Fp.nan x ∨ Fp.nan y) : minW x y = 0x7FF8000000000001 := by
  rw [minW_eq hx hy, if_neg h1, if_pos h2]
theorem minW_inf {x y : Nat} (hx : x < 18446744073709551616) (hy : y < 18446744073709551616) (h1 : x = ni ∨ y = ni) : minW x y = ni := by
  rw [minW_eq hx hy, if_pos h1]
theorem eq_of_ky {x y : Nat} (hx : x < 18446744073709551616) (hy : y < 18446744073709551616) (h : Fp.ky x = Fp.ky y) (h0 : Fp.ky x ≠ 0) : x = y := by
  have kx := ky_val x
  have kyv := ky_val y
  rw [← Fp.wd_sg_rg hx, ← Fp.wd_sg_rg hy]
  cases h1 : Fp.sg x <;> cases h2 : Fp.sg y <;> rw [h1] at kx <;> rw [h2] at kyv <;> simp at kx kyv
  · congr 1; omega
  · omega
  · omega
  · congr 1; omega
theorem eq_ni {x : Nat} (hx : x < 18446744073709551616) : (FloatKind.f64.format.order x ni == some .eq) = decide (x = ni) := by
  by_cases h : Fp.nan x
  · rw [n_eq (.inl h)]
    have : x ≠ ni := fun c => ni_nn (c ▸ h)
    simp [this]
  · rw [f_eq h ni_nn]
    by_cases e : x = ni
    · simp [e]
    · have : ¬ Fp.ky x = Fp.ky ni := fun c => e (eq_of_ky hx (by decide) c (by rw [c, ky_ni]; omega))
      simp [e, this]

theorem isNan_yes {x : Nat} (h : Fp.nan x) (w : World) : Calls Try.prog 24 #[.float .f64 x] w fun e w' => e = .returned (.bool true) ∧ w = w' := by
  have h1 := n_ne (x := x) (y := x) (.inl h)
  go_enter Try.func24, Try.ntmps24
  go_wp2
  go_ret
  exact ⟨rfl, rfl⟩
theorem isNan_no {x : Nat} (h : ¬ Fp.nan x) (w : World) : Calls Try.prog 24 #[.float .f64 x] w fun e w' => e = .returned (.bool false) ∧ w = w' := by
  have h1 := s_ne h
  go_enter Try.func24, Try.ntmps24
  go_wp2
  go_ret
  exact ⟨rfl, rfl⟩
theorem c_negInf (w : World) : Calls Try.prog 23 #[] w fun e w' => e = .returned (.float .f64 ni) ∧ w = w' := by
  have h7 := fun (t : TypeId) (W : World) => run_float_arith (P := Try.prog) W .quo t .f64 _ _ _ (show floatBits .quo .f64 13830554455654793216 0 = some ni from by decide)
  go_enter Try.func23, Try.ntmps23
  go_wp2
  go_ret
  exact ⟨rfl, rfl⟩
theorem c_negZero {x : Nat} (h : ¬ Fp.nan x) (w : World) : Calls Try.prog 26 #[.float .f64 x] w fun e w' => e = .returned (.bool (nzB x)) ∧ w = w' := by
  by_cases h0 : Fp.rg x = 0
  · have h3 := ord_zero' h0
    have h7 := fun (t : TypeId) (W : World) => run_float_arith (P := Try.prog) W .quo t .f64 _ _ _ (show floatBits .quo .f64 4607182418800017408 x = _ from Fp.one_over_zero h0)
    have h8 : (FloatKind.f64.format.order (Fp.wd (Fp.sg x) 9218868437227405312) 0 == some .lt) = nzB x := by
      rw [f_lt (inf_not_nan _) zero_nn, ky_zero, ky_wd (by omega)]
      unfold nzB; rw [h0]; cases Fp.sg x <;> simp
    generalize Fp.wd (Fp.sg x) 9218868437227405312 = r at h7 h8
    generalize nzB x = b at *
    clear h0 h
    go_enter Try.func26, Try.ntmps26
    go_wp2
    go_ret
    exact ⟨rfl, rfl⟩
  · have h3 := ord_zero h h0
    have h8 : nzB x = false := by simp [nzB, h0]
    rw [h8]
    clear h0 h h8
    go_enter Try.func26, Try.ntmps26
    go_wp2
    go_ret
    exact ⟨rfl, rfl⟩
theorem c_same {x : Nat} (h : ¬ Fp.nan x) (w : World) : Calls Try.prog 25 #[.float .f64 x, .float .f64 x] w fun e w' => e = .returned (.bool true) ∧ w = w' := by
  have h1 := s_ne h
  by_cases h0 : Fp.rg x = 0
  · have h3 := ord_zero' h0
    clear h0
    go_enter Try.func25, Try.ntmps25
    go_wp2_with (first | (go_at_call 24; (with_reducible refine (isNan_no h _).mono ?_); rintro e w' ⟨rfl, rfl⟩) | (go_at_call 26; (with_reducible refine (c_negZero h _).mono ?_); rintro e w' ⟨rfl, rfl⟩))
    go_ret
    exact ⟨rfl, rfl⟩
  · have h3 := ord_zero h h0
    clear h0
    go_enter Try.func25, Try.ntmps25
    go_wp2_with (first | (go_at_call 24; (with_reducible refine (isNan_no h _).mono ?_); rintro e w' ⟨rfl, rfl⟩) | (go_at_call 26; (with_reducible refine (c_negZero h _).mono ?_); rintro e w' ⟨rfl, rfl⟩))
    go_ret
    exact ⟨rfl, rfl⟩
theorem c_min2 (x y : Nat) (w : World) : Calls Try.prog 22 #[.float .f64 x, .float .f64 y] w fun e w' => e = .returned (.float .f64 (minW x y)) ∧ Below w.heap.size w w' := by
  have h1 := x_min x y
  go_enter Try.func22, Try.ntmps22
  go_wp2
  go_ret
  exact ⟨rfl, by go_grown⟩
theorem c_min (x y : Nat) (w : World) : Calls Try.prog 42 #[.float .f64 x, .float .f64 y] w fun e w' => e = .returned (.float .f64 (minW x y)) ∧ w' = w := by
  have h1 := x_min x y
  go_enter Try.func42, Try.ntmps42
  go_wp2
  go_ret
  exact ⟨rfl, rfl⟩
theorem c_hmin3 (x y z : Nat) (w : World) : Calls Try.prog 34 #[.agg #[.float .f64 x], .agg #[.float .f64 y], .agg #[.float .f64 z]] w fun e w' => e = .returned (.agg #[.float .f64 (minW (minW x y) z)]) ∧ Below w.heap.size w w' := by
  go_enter Try.func34, Try.ntmps34
  go_wp2
  refine wp_region_still_tail 8 (by kernel_rfl) (by kernel_rfl) ?_
  simp only [List.take_succ_cons, List.take_zero, List.drop_succ_cons, List.drop_zero]
  change wpStill _ _ (World.drew _) (fun a' => wpList _ _ _ _ a' (World.drew _)) _ _
  still_step
  still_step
  still_step
  still_step
  still_call (c_min _ _ _)
  still_step
  still_step
  still_call (c_min _ _ _)
  refine wpStill_nil ?_
  go_wp2
  exact bodyPost_ret (by simp [results, Try.results34, go_sem]) rfl ⟨rfl, by go_grown⟩
theorem c_min3 (x y z : Nat) (w : World) : Calls Try.prog 27 #[.float .f64 x, .float .f64 y, .float .f64 z] w fun e w' => e = .returned (.float .f64 (minW (minW x y) z)) ∧ Below w.heap.size w w' := by
  go_enter Try.func27, Try.ntmps27
  go_wp2_with (first | (go_at_call 34; (with_reducible refine (c_hmin3 _ _ _ _).mono ?_); rintro e w' ⟨rfl, hb⟩; obtain ⟨hb, hz⟩ := below_step (B := w.heap.size) (w0 := w) hb (by go_grown) (by go_size)) | go_in)
  go_ret
  exact ⟨rfl, by go_grown⟩
end Go.Proofs.Ytbjbjhldigecmaa
