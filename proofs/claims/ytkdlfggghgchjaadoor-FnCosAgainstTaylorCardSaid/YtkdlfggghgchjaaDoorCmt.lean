/-
  Contracts of the small functions of package math that math.cos reaches. No condition.
-/
import Derived.Test.YtkdlfggghgchjaaDoorFx
import Derived.Test.YtkdlfggghgchjaaDoorFord
import Derived.Test.YtkdlfggghgchjaaDoorOwn
import Derived.Test.YtkdlfggghgchjaaDoorProg
import Derived.WalkSmall
namespace Go.Proofs.YtkdlfggghgchjaaDoor
open Go.ChangeShapes Go.WideShapes Go.ChangeAt Go.RowKit
set_option linter.unusedVariables false

theorem x_bits (x : Nat) (W : World) : (callFunc 20 #[.float .f64 x]).run Tryd.prog W = .ok (.value (.int .u64 x)) W := by
  rw [run_callFunc_extern (e := Extern.MathFloatBits.float64bits) Tryd.func20 (by kernel_rfl) (by kernel_rfl) (by kernel_rfl) (by kernel_rfl)]
  rfl
theorem x_from (n : Int) (W : World) : (callFunc 19 #[.int .u64 n]).run Tryd.prog W = .ok (.value (.float .f64 n.toNat)) W := by
  rw [run_callFunc_extern (e := Extern.MathFloatBits.float64frombits) Tryd.func19 (by kernel_rfl) (by kernel_rfl) (by kernel_rfl) (by kernel_rfl)]
  rfl
theorem clear_top {x : Nat} (h : x < 18446744073709551616) : bits .andNot .u64 (x : Int) 9223372036854775808 = ((Fp.rg x : Nat) : Int) := by
  have := u64_andNot_nat x 9223372036854775808 h (by omega)
  rw [show ((9223372036854775808 : Nat) : Int) = 9223372036854775808 from rfl] at this
  rw [this]
  congr 1
  exact Nat.and_two_pow_sub_one_eq_mod x 63
theorem abs (x : Nat) (hx : x < 18446744073709551616) (w : World) : Calls Tryd.prog 17 #[.float .f64 x] w fun e w' => e = .returned (.float .f64 (Fp.rg x)) ∧ w = w' := by
  have xb := x_bits
  have xf := x_from
  have ct := clear_top hx
  go_enter Tryd.func17, Tryd.ntmps17
  go_wp2
  go_ret
  exact ⟨rfl, rfl⟩
theorem isNan (x : Nat) (w : World) : Calls Tryd.prog 14 #[.float .f64 x] w fun e w' => e = .returned (.bool (decide (Fp.nan x))) ∧ w = w' := by
  by_cases h : Fp.nan x
  · have := ord_nan (x := x) (y := x) (.inl h)
    go_enter Tryd.func14, Tryd.ntmps14
    go_wp2
    go_ret
    exact ⟨by simp [h], rfl⟩
  · have := ord_refl h
    go_enter Tryd.func14, Tryd.ntmps14
    go_wp2
    go_ret
    exact ⟨by simp [h], rfl⟩
theorem ky_pos {r : Nat} (h : r < 9223372036854775808) : Fp.ky r = r := by rw [ky_val, Fp.sg_pos h, Fp.rg_pos h]; rfl
theorem nn_pos {r : Nat} (h : r ≤ 9218868437227405312) : ¬ Fp.nan r := by unfold Fp.nan; rw [Fp.rg_pos (by omega)]; omega
theorem nan_rg {x : Nat} : Fp.nan (Fp.rg x) ↔ Fp.nan x := by unfold Fp.nan; rw [Fp.rg_pos (Fp.rg_lt x)]
theorem isInf (x : Nat) (hx : x < 18446744073709551616) (w : World) : Calls Tryd.prog 15 #[.float .f64 x, .int .i64 0] w fun e w' => e = .returned (.bool (decide (Fp.rg x = 9218868437227405312))) ∧ w = w' := by
  have HA := Lib.hid (abs x hx w)
  have hl := Fp.rg_lt x
  by_cases h : Fp.nan x
  · have e := n_gt (x := Fp.rg x) (y := 9218868437227405311) (.inl (nan_rg.2 h))
    have h2 := Lib.hid (show ¬ Fp.rg x = 9218868437227405312 by unfold Fp.nan at h; omega)
    go_enter Tryd.func15, Tryd.ntmps15
    go_wp2_with (go_at_call 17; (with_reducible refine HA.out.mono ?_); rintro _ _ ⟨rfl, rfl⟩)
    go_ret
    exact ⟨by rw [decide_eq_false h2.out]; rfl, rfl⟩
  · have e := f_gt (x := Fp.rg x) (y := 9218868437227405311) (fun q => h (nan_rg.1 q)) (by decide)
    rw [ky_pos hl, ky_pos (by omega)] at e
    have hr : Fp.rg x ≤ 9218868437227405312 := by unfold Fp.nan at h; omega
    by_cases h2 : Fp.rg x = 9218868437227405312
    · rw [decide_eq_true (by omega)] at e
      have H2 := Lib.hid h2
      clear h2
      go_enter Tryd.func15, Tryd.ntmps15
      go_wp2_with (go_at_call 17; (with_reducible refine HA.out.mono ?_); rintro _ _ ⟨rfl, rfl⟩)
      go_ret
      exact ⟨by rw [decide_eq_true H2.out]; rfl, rfl⟩
    · rw [decide_eq_false (by omega)] at e
      have H2 := Lib.hid h2
      clear h2
      go_enter Tryd.func15, Tryd.ntmps15
      go_wp2_with (go_at_call 17; (with_reducible refine HA.out.mono ?_); rintro _ _ ⟨rfl, rfl⟩)
      go_ret
      exact ⟨by rw [decide_eq_false H2.out]; rfl, rfl⟩
theorem nan16 (w : World) : Calls Tryd.prog 16 #[] w fun e w' => e = .returned (.float .f64 9221120237041090561) ∧ w = w' := by
  have xf := x_from
  go_enter Tryd.func16, Tryd.ntmps16
  go_wp2_with fail
  go_ret
  exact ⟨rfl, rfl⟩
theorem isNanB (x : Nat) (b : Bool) (h : decide (Fp.nan x) = b) (w : World) : Calls Tryd.prog 14 #[.float .f64 x] w fun e w' => e = .returned (.bool b) ∧ w = w' := by rw [← h]; exact isNan x w
theorem isInfB (x : Nat) (hx : x < 18446744073709551616) (b : Bool) (h : decide (Fp.rg x = 9218868437227405312) = b) (w : World) : Calls Tryd.prog 15 #[.float .f64 x, .int .i64 0] w fun e w' => e = .returned (.bool b) ∧ w = w' := by rw [← h]; exact isInf x hx w
end Go.Proofs.YtkdlfggghgchjaaDoor
