/-
  Contracts of the small functions of package math that ToInt32 reaches. No condition.
-/
import Derived.Test.YtfacphjjmmfegaaTr
import Derived.Test.YtfacphjjmmfegaaOwn
import Derived.Test.YtfacphjjmmfegaaProg
import Derived.WalkSmall
namespace Go.Proofs.Ytfacphjjmmfegaa
open Go.ChangeShapes Go.WideShapes Go.ChangeAt Go.RowKit
set_option linter.unusedVariables false

theorem x_bits (x : Nat) (W : World) : (callFunc 22 #[.float .f64 x]).run Try.prog W = .ok (.value (.int .u64 x)) W := by
  rw [run_callFunc_extern (e := Extern.MathFloatBits.float64bits) Try.func22 (by kernel_rfl) (by kernel_rfl) (by kernel_rfl) (by kernel_rfl)]
  rfl
theorem x_from (n : Int) (W : World) : (callFunc 21 #[.int .u64 n]).run Try.prog W = .ok (.value (.float .f64 n.toNat)) W := by
  rw [run_callFunc_extern (e := Extern.MathFloatBits.float64frombits) Try.func21 (by kernel_rfl) (by kernel_rfl) (by kernel_rfl) (by kernel_rfl)]
  rfl
theorem clear_top {x : Nat} (h : x < 18446744073709551616) : bits .andNot .u64 (x : Int) 9223372036854775808 = ((Fp.rg x : Nat) : Int) := by
  have := u64_andNot_nat x 9223372036854775808 h (by omega)
  rw [show ((9223372036854775808 : Nat) : Int) = 9223372036854775808 from rfl] at this
  rw [this]
  congr 1
  exact Nat.and_two_pow_sub_one_eq_mod x 63
theorem abs (x : Nat) (hx : x < 18446744073709551616) (w : World) : Calls Try.prog 12 #[.float .f64 x] w fun e w' => e = .returned (.float .f64 (Fp.rg x)) ∧ w = w' := by
  have xb := x_bits
  have xf := x_from
  have ct := clear_top hx
  go_enter Try.func12, Try.ntmps12
  go_wp2
  go_ret
  exact ⟨rfl, rfl⟩
theorem signbit (x : Nat) (hx : x < 18446744073709551616) (w : World) : Calls Try.prog 30 #[.float .f64 x] w fun e w' => e = .returned (.bool (Fp.sg x)) ∧ w = w' := by
  have xb := x_bits
  go_enter Try.func30, Try.ntmps30
  go_wp2
  go_ret
  refine ⟨?_, rfl⟩
  show Ending.returned (.bool _) = _
  congr 2
  unfold Fp.sg wrap64
  by_cases h : x < 9223372036854775808
  · rw [Nat.div_eq_of_lt h, decide_eq_false (by omega)]; rfl
  · rw [show x / 9223372036854775808 = 1 by omega, decide_eq_true (by omega)]; rfl
theorem isNan (x : Nat) (w : World) : Calls Try.prog 27 #[.float .f64 x] w fun e w' => e = .returned (.bool (decide (Fp.nan x))) ∧ w = w' := by
  by_cases h : Fp.nan x
  · have := ord_nan (x := x) (y := x) (.inl h)
    go_enter Try.func27, Try.ntmps27
    go_wp2
    go_ret
    exact ⟨by simp [h], rfl⟩
  · have := ord_refl h
    go_enter Try.func27, Try.ntmps27
    go_wp2
    go_ret
    exact ⟨by simp [h], rfl⟩
theorem ky_pos {r : Nat} (h : r < 9223372036854775808) : Fp.ky r = r := by rw [ky_val, Fp.sg_pos h, Fp.rg_pos h]; rfl
theorem nn_pos {r : Nat} (h : r ≤ 9218868437227405312) : ¬ Fp.nan r := by unfold Fp.nan; rw [Fp.rg_pos (by omega)]; omega
theorem nan_rg {x : Nat} : Fp.nan (Fp.rg x) ↔ Fp.nan x := by unfold Fp.nan; rw [Fp.rg_pos (Fp.rg_lt x)]
theorem isInf (x : Nat) (hx : x < 18446744073709551616) (w : World) : Calls Try.prog 28 #[.float .f64 x, .int .i64 0] w fun e w' => e = .returned (.bool (decide (Fp.rg x = 9218868437227405312))) ∧ w = w' := by
  have HA := Lib.hid (abs x hx w)
  have hl := Fp.rg_lt x
  by_cases h : Fp.nan x
  · have e := n_gt (x := Fp.rg x) (y := 9218868437227405311) (.inl (nan_rg.2 h))
    have h2 := Lib.hid (show ¬ Fp.rg x = 9218868437227405312 by unfold Fp.nan at h; omega)
    go_enter Try.func28, Try.ntmps28
    go_wp2_with (go_at_call 12; (with_reducible refine HA.out.mono ?_); rintro _ _ ⟨rfl, rfl⟩)
    go_ret
    exact ⟨by rw [decide_eq_false h2.out]; rfl, rfl⟩
  · have e := f_gt (x := Fp.rg x) (y := 9218868437227405311) (fun q => h (nan_rg.1 q)) (by decide)
    rw [ky_pos hl, ky_pos (by omega)] at e
    have hr : Fp.rg x ≤ 9218868437227405312 := by unfold Fp.nan at h; omega
    by_cases h2 : Fp.rg x = 9218868437227405312
    · rw [decide_eq_true (by omega)] at e
      have H2 := Lib.hid h2
      clear h2
      go_enter Try.func28, Try.ntmps28
      go_wp2_with (go_at_call 12; (with_reducible refine HA.out.mono ?_); rintro _ _ ⟨rfl, rfl⟩)
      go_ret
      exact ⟨by rw [decide_eq_true H2.out]; rfl, rfl⟩
    · rw [decide_eq_false (by omega)] at e
      have H2 := Lib.hid h2
      clear h2
      go_enter Try.func28, Try.ntmps28
      go_wp2_with (go_at_call 12; (with_reducible refine HA.out.mono ?_); rintro _ _ ⟨rfl, rfl⟩)
      go_ret
      exact ⟨by rw [decide_eq_false H2.out]; rfl, rfl⟩
theorem normalize (r : Nat) (h1 : 4503599627370496 ≤ r) (h2 : r < 9218868437227405312) (w : World) : Calls Try.prog 52 #[.float .f64 r] w fun e w' => e = .returned (.tuple #[.float .f64 r, .int .i64 0]) ∧ w = w' := by
  have HA := Lib.hid (abs r (by omega) w)
  rw [Fp.rg_pos (by omega)] at HA
  have e := f_lt (x := r) (y := 4503599627370496) (nn_pos (by omega)) (by decide)
  rw [ky_pos (by omega), ky_pos (by omega), decide_eq_false (by omega)] at e
  go_enter Try.func52, Try.ntmps52
  go_wp2_with (go_at_call 12; (with_reducible refine HA.out.mono ?_); rintro _ _ ⟨rfl, rfl⟩)
  go_ret2
  exact ⟨rfl, rfl⟩
theorem f_eq0 {r : Nat} (h1 : 0 < r) (h2 : r < 9218868437227405312) : (FloatKind.f64.format.order r 0 == some .eq) = false := by
  rw [f_eq (nn_pos (by omega)) (by decide), ky_pos (by omega), ky_zero, decide_eq_false (by omega)]
theorem isInfNo (r : Nat) (h2 : r < 9218868437227405312) (w : World) : Calls Try.prog 28 #[.float .f64 r, .int .i64 0] w fun e w' => e = .returned (.bool false) ∧ w = w' := by
  have h := isInf r (by omega) w
  rwa [Fp.rg_pos (by omega), decide_eq_false (by omega)] at h
theorem isNanNo (r : Nat) (h2 : r < 9218868437227405312) (w : World) : Calls Try.prog 27 #[.float .f64 r] w fun e w' => e = .returned (.bool false) ∧ w = w' := by
  have h := isNan r w
  rwa [decide_eq_false (nn_pos (by omega))] at h
theorem b_exp {r : Nat} (h2 : r < 9218868437227405312) : bits .and .u64 ((r : Int) / 4503599627370496) 2047 = ((r / 4503599627370496 : Nat) : Int) := by
  have := u64_and_nat (r / 4503599627370496) 2047 (by omega) (by omega)
  rwa [Fp.and_2047 (by omega)] at this
theorem b_man {r : Nat} (h2 : r < 9223372036854775808) : bits .andNot .u64 (r : Int) 9218868437227405312 = ((r % 4503599627370496 : Nat) : Int) := by
  have := u64_andNot_nat r 9218868437227405312 (by omega) (by omega)
  rwa [show 18446744073709551615 - 9218868437227405312 = 9227875636482146303 from rfl, Fp.mask_lo h2] at this
theorem b_half {M : Nat} (h : M < 4503599627370496) : bits .or .u64 (M : Int) 4602678819172646912 = ((1022 * 4503599627370496 + M : Nat) : Int) := by
  have := u64_or_nat M (1022 * 4503599627370496) (by omega) (by omega)
  rwa [Fp.or_join h] at this
set_option maxHeartbeats 1000000 in
theorem frexp33 (r E M : Nat) (hr : r = E * 4503599627370496 + M) (hM : M < 4503599627370496) (h1 : 1 ≤ E) (h2 : E ≤ 2046) (w : World) : Calls Try.prog 49 #[.float .f64 r] w fun e w' => e = .returned (.tuple #[.float .f64 (1022 * 4503599627370496 + M), .int .i64 ((E : Int) - 1022)]) ∧ w = w' := by
  have hb : 4503599627370496 ≤ r ∧ r < 9218868437227405312 := by omega
  have HN := Lib.hid (normalize r hb.1 hb.2 w)
  have HI := Lib.hid (isInfNo r hb.2 w)
  have HM := Lib.hid (isNanNo r hb.2 w)
  have e := f_eq0 (show 0 < r by omega) hb.2
  have b1 := b_exp hb.2
  have b2 := b_man (show r < 9223372036854775808 by omega)
  rw [show r / 4503599627370496 = E by omega] at b1
  rw [show r % 4503599627370496 = M by omega] at b2
  have b3 := b_half hM
  have xb := x_bits
  have xf := x_from
  have hb2 := hb.2
  clear hr hb
  generalize 1022 * 4503599627370496 + M = Z at *
  go_enter Try.func49, Try.ntmps49
  go_wp2_with (first
    | (go_at_call 52; (with_reducible refine HN.out.mono ?_); rintro _ _ ⟨rfl, rfl⟩)
    | (go_at_call 28; (with_reducible refine HI.out.mono ?_); rintro _ _ ⟨rfl, rfl⟩)
    | (go_at_call 27; (with_reducible refine HM.out.mono ?_); rintro _ _ ⟨rfl, rfl⟩))
  go_ret2
  refine ⟨?_, rfl⟩
  show Ending.returned (.tuple #[_, .int .i64 _]) = _
  congr 6
  omega
set_option maxHeartbeats 1000000 in
theorem frexp (r E M : Nat) (hr : r = E * 4503599627370496 + M) (hM : M < 4503599627370496) (h1 : 1 ≤ E) (h2 : E ≤ 2046) (w : World) : Calls Try.prog 44 #[.float .f64 r] w fun e w' => e = .returned (.tuple #[.float .f64 (1022 * 4503599627370496 + M), .int .i64 ((E : Int) - 1022)]) ∧ w = w' := by
  have H := Lib.hid (frexp33 r E M hr hM h1 h2 w)
  clear hr
  go_enter Try.func44, Try.ntmps44
  go_wp2_with (go_at_call 49; (with_reducible refine H.out.mono ?_); rintro _ _ ⟨rfl, rfl⟩)
  go_ret2
  exact ⟨rfl, rfl⟩
set_option maxHeartbeats 1000000 in
theorem ldexp35 (E : Nat) (h1 : 1055 ≤ E) (h2 : E ≤ 2046) (w : World) : Calls Try.prog 51 #[.float .f64 4751297606875873280, .int .i64 ((E : Int) - 1055)] w fun e w' => e = .returned (.float .f64 (E * 4503599627370496)) ∧ w = w' := by
  have HN := Lib.hid (normalize 4751297606875873280 (by omega) (by omega) w)
  have HI := Lib.hid (isInfNo 4751297606875873280 (by omega) w)
  have HM := Lib.hid (isNanNo 4751297606875873280 (by omega) w)
  have e := f_eq0 (show 0 < 4751297606875873280 by omega) (by omega)
  have xb := x_bits
  have xf := x_from
  have b2 : bits .andNot .u64 4751297606875873280 9218868437227405312 = 0 := b_man (show 4751297606875873280 < 9223372036854775808 by omega)
  have b3 : bits .and .i64 1055 2047 = 1055 := by decide
  have b4 : bits .or .u64 0 (((E : Int) - 1055 + 32 + 1023) * 4503599627370496) = ((E * 4503599627370496 : Nat) : Int) := by
    have q := u64_or_nat 0 (E * 4503599627370496) (by omega) (by omega)
    rw [Nat.zero_or] at q
    rw [← q]
    congr 1
    omega
  have hm := fun (t : TypeId) (W : World) => run_float_arith (P := Try.prog) W .mul t .f64 _ _ _ (show floatBits .mul .f64 4607182418800017408 (E * 4503599627370496) = _ from Fp.one_mul' (by omega))
  generalize E * 4503599627370496 = Z at *
  go_enter Try.func51, Try.ntmps51
  go_wp2_with (first
    | (go_at_call 52; (with_reducible refine HN.out.mono ?_); rintro _ _ ⟨rfl, rfl⟩)
    | (go_at_call 28; (with_reducible refine HI.out.mono ?_); rintro _ _ ⟨rfl, rfl⟩)
    | (go_at_call 27; (with_reducible refine HM.out.mono ?_); rintro _ _ ⟨rfl, rfl⟩))
  go_ret
  exact ⟨rfl, rfl⟩
theorem ldexp (E : Nat) (h1 : 1055 ≤ E) (h2 : E ≤ 2046) (w : World) : Calls Try.prog 45 #[.float .f64 4751297606875873280, .int .i64 ((E : Int) - 1055)] w fun e w' => e = .returned (.float .f64 (E * 4503599627370496)) ∧ w = w' := by
  have H := Lib.hid (ldexp35 E h1 h2 w)
  go_enter Try.func45, Try.ntmps45
  go_wp2_with (go_at_call 51; (with_reducible refine H.out.mono ?_); rintro _ _ ⟨rfl, rfl⟩)
  go_ret
  exact ⟨rfl, rfl⟩
def fltOf : Value → Nat
  | .float _ n => n
  | _ => 0
set_option maxHeartbeats 2000000 in
theorem mod18 (x : Nat) (hx : x < 9218868437227405312) (w : World) : Calls Try.prog 39 #[.float .f64 x, .float .f64 4751297606875873280] w fun e w' => (∃ r q : Nat, e = .returned (.float .f64 r) ∧ r < 4751297606875873280 ∧ Fp.N x = Fp.N r + q * Fp.Yc) ∧ w = w' := by
  have HI := Lib.hid (isInfNo x hx w)
  have HM := Lib.hid (isNanNo x hx w)
  have HM2 := Lib.hid (isNanNo 4751297606875873280 (by omega) w)
  have HA := Lib.hid (abs 4751297606875873280 (by omega) w)
  rw [Fp.rg_pos (by omega)] at HA
  have HF := Lib.hid (frexp 4751297606875873280 1055 0 (by omega) (by omega) (by omega) (by omega) w)
  have e1 := f_eq0 (show 0 < 4751297606875873280 by omega) (by omega)
  have e2 := f_lt (x := x) (y := 0) (nn_pos (by omega)) (by decide)
  rw [ky_pos (by omega), ky_zero, decide_eq_false (by omega)] at e2
  go_enter Try.func39, Try.ntmps39
  go_wp2_with (first
    | (go_at_call 28; (with_reducible refine HI.out.mono ?_); rintro _ _ ⟨rfl, rfl⟩)
    | (go_at_call 27; (with_reducible refine HM.out.mono ?_); rintro _ _ ⟨rfl, rfl⟩)
    | (go_at_call 27; (with_reducible refine HM2.out.mono ?_); rintro _ _ ⟨rfl, rfl⟩)
    | (go_at_call 12; (with_reducible refine HA.out.mono ?_); rintro _ _ ⟨rfl, rfl⟩)
    | (go_at_call 44; (with_reducible refine HF.out.mono ?_); rintro _ _ ⟨rfl, rfl⟩))
  clear HI HM HM2 HA HF e1
  go_loopw [7] (fun v wr => w = wr ∧ ∃ r q : Nat, v = .float .f64 r ∧ r < 9218868437227405312 ∧ Fp.N x = Fp.N r + q * Fp.Yc) (fun v _ => fltOf v)
  case atStart => exact ⟨by trivial, x, 0, rfl, hx, by rw [Nat.zero_mul]; rfl⟩
  case round =>
    obtain ⟨rfl, r, q, rfl, hr, hN⟩ := hrel
    have HN := Lib.hid hN
    clear hN
    have g1 := f_gt (x := r) (y := 4751297606875873280) (nn_pos (by omega)) (by decide)
    have g2 := f_eq (x := r) (y := 4751297606875873280) (nn_pos (by omega)) (by decide)
    rw [ky_pos (by omega), ky_pos (by omega)] at g1 g2
    by_cases hge : 4751297606875873280 ≤ r
    · obtain ⟨k, hk, hkr, hkN⟩ := Fp.sub_top (r := r) (by omega) hr
      have hM := Nat.mod_lt r (show 4503599627370496 > 0 by omega)
      have hd := Nat.div_add_mod r 4503599627370496
      have hE : 1055 ≤ r / 4503599627370496 ∧ r / 4503599627370496 ≤ 2046 := by omega
      generalize r / 4503599627370496 = E at *
      generalize r % 4503599627370496 = M at *
      have HS := Lib.hid (Fp.step_mod hE.1 HN.out hkN)
      obtain ⟨Z, hZ⟩ : ∃ Z, Z = E * 4503599627370496 := ⟨_, rfl⟩
      obtain ⟨Z2, hZ2⟩ : ∃ Z2, Z2 = 1022 * 4503599627370496 + M := ⟨_, rfl⟩
      have HF := Lib.hid (frexp r E M (by omega) hM (by omega) (by omega) w)
      rw [← hZ2] at HF
      have HL : Hid (Calls Try.prog 45 #[.float .f64 4751297606875873280, .int .i64 ((E : Int) - 1022 - 33)] w fun e w' => e = .returned (.float .f64 Z) ∧ w = w') := by
        rw [hZ]
        have q := ldexp E hE.1 hE.2 w
        rwa [show (E : Int) - 1055 = (E : Int) - 1022 - 33 by omega] at q
      rw [← hZ] at hk
      have hm := fun (t : TypeId) (W : World) => run_float_arith (P := Try.prog) W .sub t .f64 _ _ _ (show floatBits .sub .f64 r Z = some k from hk)
      have g3 := f_lt (x := Z2) (y := 4602678819172646912) (nn_pos (by omega)) (by decide)
      rw [ky_pos (by omega), ky_pos (by omega), decide_eq_false (by omega)] at g3
      have hE1 := hE.1
      have hE2 := hE.2
      clear hE hkN hd HN hk hZ hZ2
      by_cases heq : r = 4751297606875873280
      · rw [decide_eq_false (by omega)] at g1
        rw [decide_eq_true (by omega)] at g2
        have HEQ := Lib.hid heq
        clear heq
        go_wp2_with (first
          | (go_at_call 44; (with_reducible refine HF.out.mono ?_); rintro _ _ ⟨rfl, rfl⟩)
          | (go_at_call 45; (with_reducible refine HL.out.mono ?_); rintro _ _ ⟨rfl, rfl⟩))
        exact ⟨⟨by trivial, k, _, rfl, by omega, HS.out⟩, by simp [fltOf]; omega⟩
      · rw [decide_eq_true (by omega)] at g1
        rw [decide_eq_false (by omega)] at g2
        clear heq
        go_wp2_with (first
          | (go_at_call 44; (with_reducible refine HF.out.mono ?_); rintro _ _ ⟨rfl, rfl⟩)
          | (go_at_call 45; (with_reducible refine HL.out.mono ?_); rintro _ _ ⟨rfl, rfl⟩))
        exact ⟨⟨by trivial, k, _, rfl, by omega, HS.out⟩, by simp [fltOf]; omega⟩
    · rw [decide_eq_false (by omega)] at g1
      rw [decide_eq_false (by omega)] at g2
      go_wp2
      go_ret
      exact ⟨⟨r, q, rfl, by omega, HN.out⟩, rfl⟩
theorem mod (x : Nat) (hx : x < 9218868437227405312) (w : World) : Calls Try.prog 29 #[.float .f64 x, .float .f64 4751297606875873280] w fun e w' => (∃ r q : Nat, e = .returned (.float .f64 r) ∧ r < 4751297606875873280 ∧ Fp.N x = Fp.N r + q * Fp.Yc) ∧ w = w' := by
  have H := Lib.hid (mod18 x hx w)
  go_enter Try.func29, Try.ntmps29
  go_wp2_with (go_at_call 39; (with_reducible refine H.out.mono ?_); rintro _ _ ⟨⟨r, q, rfl, hr, hN⟩, rfl⟩; have HN := Lib.hid hN; clear hN)
  go_ret
  exact ⟨⟨r, q, rfl, hr, HN.out⟩, rfl⟩
end Go.Proofs.Ytfacphjjmmfegaa
