/-
  Contracts of the small functions of package math that Log2 reaches. No condition.
-/
import Derived.Test.YtkdlfggghgchjaaFx
import Derived.Test.YtkdlfggghgchjaaFord
import Derived.Test.YtkdlfggghgchjaaProg
import Derived.WalkSmall
import Derived.Laws.BitsAllLaws
namespace Go.Proofs.Ytkdlfggghgchjaa
open Go.ChangeShapes Go.WideShapes Go.ChangeAt Go.RowKit
set_option linter.unusedVariables false

theorem x_bits (x : Nat) (W : World) : (callFunc 33 #[.float .f64 x]).run Try.prog W = .ok (.value (.int .u64 x)) W := by
  rw [run_callFunc_extern (e := Extern.MathFloatBits.float64bits) Try.func33 (by kernel_rfl) (by kernel_rfl) (by kernel_rfl) (by kernel_rfl)]
  rfl
theorem x_from (n : Int) (W : World) : (callFunc 32 #[.int .u64 n]).run Try.prog W = .ok (.value (.float .f64 n.toNat)) W := by
  rw [run_callFunc_extern (e := Extern.MathFloatBits.float64frombits) Try.func32 (by kernel_rfl) (by kernel_rfl) (by kernel_rfl) (by kernel_rfl)]
  rfl
theorem clear_top {x : Nat} (h : x < 18446744073709551616) : bits .andNot .u64 (x : Int) 9223372036854775808 = ((Fp.rg x : Nat) : Int) := by
  have := u64_andNot_nat x 9223372036854775808 h (by omega)
  rw [show ((9223372036854775808 : Nat) : Int) = 9223372036854775808 from rfl] at this
  rw [this]
  congr 1
  exact Nat.and_two_pow_sub_one_eq_mod x 63
theorem abs (x : Nat) (hx : x < 18446744073709551616) (w : World) : Calls Try.prog 34 #[.float .f64 x] w fun e w' => e = .returned (.float .f64 (Fp.rg x)) ∧ w = w' := by
  have xb := x_bits
  have xf := x_from
  have ct := clear_top hx
  go_enter Try.func34, Try.ntmps34
  go_wp2
  go_ret
  exact ⟨rfl, rfl⟩
theorem isNan (x : Nat) (w : World) : Calls Try.prog 22 #[.float .f64 x] w fun e w' => e = .returned (.bool (decide (Fp.nan x))) ∧ w = w' := by
  by_cases h : Fp.nan x
  · have := ord_nan (x := x) (y := x) (.inl h)
    go_enter Try.func22, Try.ntmps22
    go_wp2
    go_ret
    exact ⟨by simp [h], rfl⟩
  · have := ord_refl h
    go_enter Try.func22, Try.ntmps22
    go_wp2
    go_ret
    exact ⟨by simp [h], rfl⟩
theorem ky_pos {r : Nat} (h : r < 9223372036854775808) : Fp.ky r = r := by rw [ky_val, Fp.sg_pos h, Fp.rg_pos h]; rfl
theorem nn_pos {r : Nat} (h : r ≤ 9218868437227405312) : ¬ Fp.nan r := by unfold Fp.nan; rw [Fp.rg_pos (by omega)]; omega
theorem nan_rg {x : Nat} : Fp.nan (Fp.rg x) ↔ Fp.nan x := by unfold Fp.nan; rw [Fp.rg_pos (Fp.rg_lt x)]
theorem isInf (x : Nat) (hx : x < 18446744073709551616) (w : World) : Calls Try.prog 26 #[.float .f64 x, .int .i64 0] w fun e w' => e = .returned (.bool (decide (Fp.rg x = 9218868437227405312))) ∧ w = w' := by
  have HA := Lib.hid (abs x hx w)
  have hl := Fp.rg_lt x
  by_cases h : Fp.nan x
  · have e := n_gt (x := Fp.rg x) (y := 9218868437227405311) (.inl (nan_rg.2 h))
    have h2 := Lib.hid (show ¬ Fp.rg x = 9218868437227405312 by unfold Fp.nan at h; omega)
    go_enter Try.func26, Try.ntmps26
    go_wp2_with (go_at_call 34; (with_reducible refine HA.out.mono ?_); rintro _ _ ⟨rfl, rfl⟩)
    go_ret
    exact ⟨by rw [decide_eq_false h2.out]; rfl, rfl⟩
  · have e := f_gt (x := Fp.rg x) (y := 9218868437227405311) (fun q => h (nan_rg.1 q)) (by decide)
    rw [ky_pos hl, ky_pos (by omega)] at e
    have hr : Fp.rg x ≤ 9218868437227405312 := by unfold Fp.nan at h; omega
    by_cases h2 : Fp.rg x = 9218868437227405312
    · rw [decide_eq_true (by omega)] at e
      have H2 := Lib.hid h2
      clear h2
      go_enter Try.func26, Try.ntmps26
      go_wp2_with (go_at_call 34; (with_reducible refine HA.out.mono ?_); rintro _ _ ⟨rfl, rfl⟩)
      go_ret
      exact ⟨by rw [decide_eq_true H2.out]; rfl, rfl⟩
    · rw [decide_eq_false (by omega)] at e
      have H2 := Lib.hid h2
      clear h2
      go_enter Try.func26, Try.ntmps26
      go_wp2_with (go_at_call 34; (with_reducible refine HA.out.mono ?_); rintro _ _ ⟨rfl, rfl⟩)
      go_ret
      exact ⟨by rw [decide_eq_false H2.out]; rfl, rfl⟩
theorem f_eq0 {r : Nat} (h1 : 0 < r) (h2 : r < 9218868437227405312) : (FloatKind.f64.format.order r 0 == some .eq) = false := by
  rw [f_eq (nn_pos (by omega)) (by decide), ky_pos (by omega), ky_zero, decide_eq_false (by omega)]
theorem isInfNo (r : Nat) (h2 : r < 9218868437227405312) (w : World) : Calls Try.prog 26 #[.float .f64 r, .int .i64 0] w fun e w' => e = .returned (.bool false) ∧ w = w' := by
  have h := isInf r (by omega) w
  rwa [Fp.rg_pos (by omega), decide_eq_false (by omega)] at h
theorem isNanNo (r : Nat) (h2 : r < 9218868437227405312) (w : World) : Calls Try.prog 22 #[.float .f64 r] w fun e w' => e = .returned (.bool false) ∧ w = w' := by
  have h := isNan r w
  rwa [decide_eq_false (nn_pos (by omega))] at h
theorem wd_lt {s : Bool} {k : Nat} (h : k < 9218868437227405312) : Fp.wd s k < 18446744073709551616 := by unfold Fp.wd; split <;> omega
theorem wd_nn {s : Bool} {k : Nat} (h : k < 9218868437227405312) : ¬ Fp.nan (Fp.wd s k) := by unfold Fp.nan; rw [Fp.rg_wd (by omega)]; omega
theorem bw_exp {s : Bool} {k : Nat} (h : k < 9218868437227405312) : bits .and .u64 ((Fp.wd s k : Nat) / 4503599627370496 : Int) 2047 = ((k / 4503599627370496 : Nat) : Int) := by
  have := u64_and_nat (Fp.wd s k / 4503599627370496) 2047 (by have := wd_lt (s := s) h; omega) (by omega)
  rw [Fp.and_2047'] at this
  rw [show ((Fp.wd s k : Nat) / 4503599627370496 : Int) = ((Fp.wd s k / 4503599627370496 : Nat) : Int) from rfl, show (2047 : Int) = ((2047 : Nat) : Int) from rfl, this]
  congr 1
  unfold Fp.wd; split <;> omega
theorem bw_man {s : Bool} {k : Nat} (h : k < 9218868437227405312) : bits .andNot .u64 (Fp.wd s k : Int) 9218868437227405312 = ((Fp.wd s (k % 4503599627370496) : Nat) : Int) := by
  have := u64_andNot_nat (Fp.wd s k) 9218868437227405312 (wd_lt h) (by omega)
  rwa [show 18446744073709551615 - 9218868437227405312 = 9227875636482146303 from rfl, Fp.mask_wd s h] at this
theorem bw_half {s : Bool} {M : Nat} (h : M < 4503599627370496) : bits .or .u64 (Fp.wd s M : Int) 4602678819172646912 = ((Fp.wd s (1022 * 4503599627370496 + M) : Nat) : Int) := by
  have := u64_or_nat (Fp.wd s M) 4602678819172646912 (wd_lt (by omega)) (by omega)
  rwa [Fp.or_wd s h] at this
/-- What normalize gives. -/
def NPost (x : Nat) (w : World) (e : Ending) (w' : World) : Prop :=
  ∃ (k : Nat) (j : Int) (t : Nat), e = .returned (.tuple #[.float .f64 (Fp.wd (Fp.sg x) k), .int .i64 j]) ∧ 4503599627370496 ≤ k ∧ k < 9218868437227405312 ∧ (j = 0 ∨ j = -52) ∧ (t : Int) = j + 52 ∧ Fp.N (Fp.rg x) * 4503599627370496 = Fp.N k * 2 ^ t ∧ w = w'
set_option maxHeartbeats 1000000 in
theorem norm37 (x : Nat) (hx : x < 18446744073709551616) (hf : Fp.rg x < 9218868437227405312) (h0 : Fp.rg x ≠ 0) (w : World) : Calls Try.prog 37 #[.float .f64 x] w (NPost x w) := by
  have HA := Lib.hid (abs x hx w)
  have e := f_lt (x := Fp.rg x) (y := 4503599627370496) (nn_pos (by omega)) (by decide)
  rw [ky_pos (by omega), ky_pos (by omega)] at e
  by_cases h1 : Fp.rg x < 4503599627370496
  · rw [decide_eq_true (by omega)] at e
    obtain ⟨k, hk1, hk2, hk3, hk4⟩ := Fp.nrm (Fp.sg x) (r := Fp.rg x) (by omega) h1
    rw [Fp.wd_sg_rg hx] at hk1
    have hm := fun (t : TypeId) (W : World) => run_float_arith (P := Try.prog) W .mul t .f64 _ _ _ (show floatBits .mul .f64 x 4841369599423283200 = some (Fp.wd (Fp.sg x) k) from hk1)
    have HE := Lib.hid (show NPost x w (.returned (.tuple #[.float .f64 (Fp.wd (Fp.sg x) k), .int .i64 (-52)])) w from ⟨k, -52, 0, rfl, hk3, by omega, .inr rfl, rfl, by rw [Fp.N_small h1, hk2, Nat.pow_zero, Nat.mul_one], rfl⟩)
    generalize Fp.wd (Fp.sg x) k = z at *
    clear hk1 hk2 hk3 hk4 h1 h0 hf
    go_enter Try.func37, Try.ntmps37
    go_wp2_with (go_at_call 34; (with_reducible refine HA.out.mono ?_); rintro _ _ ⟨rfl, rfl⟩)
    go_ret2
    exact HE.out
  · rw [decide_eq_false (by omega)] at e
    have HE := Lib.hid (show NPost x w (.returned (.tuple #[.float .f64 x, .int .i64 0])) w from ⟨Fp.rg x, 0, 52, by rw [Fp.wd_sg_rg hx], by omega, hf, .inl rfl, rfl, rfl, rfl⟩)
    clear h1 h0 hf
    go_enter Try.func37, Try.ntmps37
    go_wp2_with (go_at_call 34; (with_reducible refine HA.out.mono ?_); rintro _ _ ⟨rfl, rfl⟩)
    go_ret2
    exact HE.out
/-- What frexp gives of a finite number. -/
def FPost (x : Nat) (w : World) (e : Ending) (w' : World) : Prop :=
  ∃ (M t : Nat) (j : Int), e = .returned (.tuple #[.float .f64 (Fp.wd (Fp.sg x) (1022 * 4503599627370496 + M)), .int .i64 j]) ∧ M < 4503599627370496 ∧ (t : Int) = j + 1073 ∧ t ≤ 2097 ∧ Fp.N (Fp.rg x) * 4503599627370496 = (4503599627370496 + M) * 2 ^ t ∧ w = w'
theorem f_eq0' {x : Nat} (hf : Fp.rg x < 9218868437227405312) (h0 : Fp.rg x ≠ 0) : (FloatKind.f64.format.order x 0 == some .eq) = false :=
  ord_zero (by unfold Fp.nan; omega) h0
set_option maxHeartbeats 1000000 in
theorem frexp29 (x : Nat) (hx : x < 18446744073709551616) (hf : Fp.rg x < 9218868437227405312) (h0 : Fp.rg x ≠ 0) (w : World) : Calls Try.prog 29 #[.float .f64 x] w (FPost x w) := by
  have HN := Lib.hid (norm37 x hx hf h0 w)
  have HI := Lib.hid (isInf x hx w)
  have HM := Lib.hid (isNan x w)
  rw [decide_eq_false (by omega)] at HI
  rw [decide_eq_false (by unfold Fp.nan; omega)] at HM
  have e := f_eq0' hf h0
  have xb := x_bits
  have xf := x_from
  clear hf h0
  go_enter Try.func29, Try.ntmps29
  go_wp2_with (first
    | (go_at_call 26; (with_reducible refine HI.out.mono ?_); rintro _ _ ⟨rfl, rfl⟩)
    | (go_at_call 22; (with_reducible refine HM.out.mono ?_); rintro _ _ ⟨rfl, rfl⟩))
  refine HN.out.mono ?_
  rintro _ _ ⟨k, j, t, rfl, hk1, hk2, hj, ht, hN, rfl⟩
  have b1 := bw_exp (s := Fp.sg x) hk2
  have b2 := bw_man (s := Fp.sg x) hk2
  have b3 := bw_half (s := Fp.sg x) (Nat.mod_lt k (show 4503599627370496 > 0 by omega))
  have hE : k / 4503599627370496 ≤ 2046 ∧ 1 ≤ k / 4503599627370496 := by omega
  have HE : Hid (FPost x w (.returned (.tuple #[.float .f64 (Fp.wd (Fp.sg x) (1022 * 4503599627370496 + k % 4503599627370496)), .int .i64 (j + ((k / 4503599627370496 : Nat) - 1022))])) w) :=
    ⟨k % 4503599627370496, t + (k / 4503599627370496 - 1), _, rfl, Nat.mod_lt _ (by omega), by omega, by omega, by rw [hN, Fp.N_big hk1, Nat.mul_assoc, ← Nat.pow_add, Nat.add_comm t], rfl⟩
  have HL := Lib.hid (wd_lt (s := Fp.sg x) hk2)
  generalize Fp.wd (Fp.sg x) (1022 * 4503599627370496 + k % 4503599627370496) = z at *
  generalize Fp.wd (Fp.sg x) (k % 4503599627370496) = y at *
  generalize Fp.wd (Fp.sg x) k = u at *
  generalize k / 4503599627370496 = E at *
  have hul := HL.out
  clear hN ht hk1 hk2 HN HI HM HL
  go_wp2_with fail
  go_ret2
  show FPost x w (.returned (.tuple #[.float .f64 z, .int .i64 (j + ((E : Int) - 1023 + 1))])) w
  rw [show j + ((E : Int) - 1023 + 1) = j + ((E : Nat) - 1022) by omega]
  exact HE.out
set_option maxHeartbeats 1000000 in
theorem frexp20 (x : Nat) (hx : x < 18446744073709551616) (hf : Fp.rg x < 9218868437227405312) (h0 : Fp.rg x ≠ 0) (w : World) : Calls Try.prog 20 #[.float .f64 x] w (FPost x w) := by
  have H := Lib.hid (frexp29 x hx hf h0 w)
  clear hf h0
  go_enter Try.func20, Try.ntmps20
  go_wp2_with fail
  refine H.out.mono ?_
  rintro _ _ ⟨M, t, j, rfl, h1, h2, h3, h4, rfl⟩
  have HE := Lib.hid (show FPost x w (.returned (.tuple #[.float .f64 (Fp.wd (Fp.sg x) (1022 * 4503599627370496 + M)), .int .i64 j])) w from ⟨M, t, j, rfl, h1, h2, h3, h4, rfl⟩)
  generalize Fp.wd (Fp.sg x) (1022 * 4503599627370496 + M) = z at *
  clear h4 H
  go_wp2_with fail
  go_ret2
  exact HE.out
/-- Of NaN, an infinity or a zero frexp gives the same. -/
theorem frexpSame (x : Nat) (hx : x < 18446744073709551616) (h : Fp.rg x = 0 ∨ 9218868437227405312 ≤ Fp.rg x) (w : World) : Calls Try.prog 20 #[.float .f64 x] w fun e w' => e = .returned (.tuple #[.float .f64 x, .int .i64 0]) ∧ w = w' := by
  have H29 : Hid (Calls Try.prog 29 #[.float .f64 x] w fun e w' => e = .returned (.tuple #[.float .f64 x, .int .i64 0]) ∧ w = w') := by
    by_cases h0 : Fp.rg x = 0
    · have e := ord_zero' h0
      clear h h0
      go_enter Try.func29, Try.ntmps29
      go_wp2_with fail
      go_ret2
      exact ⟨rfl, rfl⟩
    · have HI := Lib.hid (isInf x hx w)
      have HM := Lib.hid (isNan x w)
      by_cases hn : Fp.nan x
      · have e := n_eq (x := x) (y := 0) (.inl hn)
        rw [decide_eq_false (by unfold Fp.nan at hn; omega)] at HI
        rw [decide_eq_true hn] at HM
        clear h h0 hn
        go_enter Try.func29, Try.ntmps29
        go_wp2_with (first
          | (go_at_call 26; (with_reducible refine HI.out.mono ?_); rintro _ _ ⟨rfl, rfl⟩)
          | (go_at_call 22; (with_reducible refine HM.out.mono ?_); rintro _ _ ⟨rfl, rfl⟩))
        go_ret2
        exact ⟨rfl, rfl⟩
      · have e := ord_zero hn h0
        rw [decide_eq_true (by unfold Fp.nan at hn; omega)] at HI
        clear h h0 hn HM
        go_enter Try.func29, Try.ntmps29
        go_wp2_with (first
          | (go_at_call 26; (with_reducible refine HI.out.mono ?_); rintro _ _ ⟨rfl, rfl⟩))
        go_ret2
        exact ⟨rfl, rfl⟩
  go_enter Try.func20, Try.ntmps20
  go_wp2_with (go_at_call 29; (with_reducible refine H29.out.mono ?_); rintro _ _ ⟨rfl, rfl⟩)
  go_ret2
  exact ⟨rfl, rfl⟩
theorem oct_pow (K b p j : Nat) (h : j = p + b + 52) : K * 2 ^ p * 2 ^ b * 4503599627370496 = K * 2 ^ j := by
  subst h
  rw [Nat.pow_add _ (p + b), Nat.pow_add _ p, Nat.mul_assoc K, Nat.mul_assoc K]
/-- The octave that the law counts. -/
def OPost (x : Nat) (w : World) (e : Ending) (w' : World) : Prop :=
  ∃ (a b M : Nat), e = .returned (.int .i64 ((b : Int) - a)) ∧ M < 4503599627370496 ∧ Fp.N x * 4503599627370496 * 2 ^ a = (4503599627370496 + M) * 2 ^ (1074 + b) ∧ a ≤ 4611686018427387904 ∧ b ≤ 2048 ∧ w = w'
def fltOf : Value → Nat
  | .float _ n => n
  | _ => 0
set_option maxHeartbeats 2000000 in
theorem octave8 (x : Nat) (h0 : 0 < x) (hx : x < 9218868437227405312) (w : World) : Calls Try.prog 8 #[.float .f64 x] w (OPost x w) := by
  go_enter Try.func8, Try.ntmps8
  go_wp2_with fail
  go_loopw [3, 4] (fun y k wr => w = wr ∧ ∃ (r b : Nat), y = .float .f64 r ∧ k = .int .i64 b ∧ 0 < r ∧ r < 9218868437227405312 ∧ r + b * 4503599627370496 ≤ x ∧ Hid (Fp.N x = Fp.N r * 2 ^ b)) (fun y _ _ => fltOf y)
  case atStart => exact ⟨by trivial, x, 0, rfl, rfl, h0, hx, by omega, Lib.hid (by rw [Nat.pow_zero, Nat.mul_one])⟩
  case round =>
    obtain ⟨rfl, r, b, rfl, rfl, hr0, hr1, hrb, HN⟩ := hrel
    have g2 := f_lt (x := r) (y := 4611686018427387904) (nn_pos (by omega)) (by decide)
    have g1 := f_gt (x := r) (y := 4611686018427387904) (nn_pos (by omega)) (by decide)
    have g3 := f_eq (x := r) (y := 4611686018427387904) (nn_pos (by omega)) (by decide)
    rw [ky_pos (by omega), ky_pos (by omega)] at g1 g2 g3
    by_cases hge : 4611686018427387904 ≤ r
    · obtain ⟨d1, d2⟩ := Fp.hlv hge hr1
      have hm := fun (t : TypeId) (W : World) => run_float_arith (P := Try.prog) W .quo t .f64 _ _ _ (show floatBits .quo .f64 r 4611686018427387904 = some (r - 4503599627370496) from d1)
      have HN2 := Lib.hid (show Fp.N x = Fp.N (r - 4503599627370496) * 2 ^ (b + 1) by rw [HN.out, d2, Nat.pow_succ, Nat.mul_comm 2, Nat.mul_assoc, Nat.mul_comm 2])
      rw [decide_eq_false (by omega)] at g2
      obtain ⟨r', hr'⟩ : ∃ r', r' = r - 4503599627370496 := ⟨_, rfl⟩
      rw [← hr'] at hm HN2
      have k1 : 0 < r' := by omega
      have k2 : r' < 9218868437227405312 := by omega
      have k3 : r' + (b + 1) * 4503599627370496 ≤ x := by omega
      have k4 : r' < r := by omega
      have HR := Lib.hid hr'
      clear hr'
      clear d1 d2 HN
      by_cases heq : r = 4611686018427387904
      · rw [decide_eq_false (by omega)] at g1
        rw [decide_eq_true (by omega)] at g3
        have HQ := Lib.hid heq
        clear heq
        go_wp2_with fail
        exact ⟨⟨by trivial, r', b + 1, rfl, by go_num, k1, k2, k3, HN2⟩, k4⟩
      · rw [decide_eq_true (by omega)] at g1
        rw [decide_eq_false (by omega)] at g3
        clear heq
        go_wp2_with fail
        exact ⟨⟨by trivial, r', b + 1, rfl, by go_num, k1, k2, k3, HN2⟩, k4⟩
    · rw [decide_eq_false (by omega)] at g1
      rw [decide_eq_false (by omega)] at g3
      have hb : b ≤ 2048 := by omega
      clear g2
      go_wp2_with fail
      go_loopw [3, 4] (fun y k wr => w = wr ∧ ∃ (r a b : Nat), y = .float .f64 r ∧ k = .int .i64 ((b : Int) - a) ∧ 0 < r ∧ r < 4611686018427387904 ∧ b ≤ 2048 ∧ r ≤ 4611686018427387904 ∧ a ≤ r ∧ Hid (Fp.N x * 2 ^ a = Fp.N r * 2 ^ b)) (fun y _ _ => 4611686018427387904 - fltOf y)
      case atStart => exact ⟨by trivial, r, 0, b, rfl, by go_num, hr0, by omega, hb, by omega, by omega, Lib.hid (by rw [HN.out, Nat.pow_zero, Nat.mul_one])⟩
      case round =>
        clear HN hr0 hr1 hrb hge g1 g3 hb
        obtain ⟨rfl, r, a, b, rfl, rfl, hr0, hr1, hb, hr2, har, HN⟩ := hrel
        have g2 := f_lt (x := r) (y := 4607182418800017408) (nn_pos (by omega)) (by decide)
        rw [ky_pos (by omega), ky_pos (by omega)] at g2
        by_cases hlt : r < 4607182418800017408
        · rw [decide_eq_true (by omega)] at g2
          obtain ⟨k, d1, d2, d3, d4⟩ := Fp.dbl hr0 hlt
          have hm := fun (t : TypeId) (W : World) => run_float_arith (P := Try.prog) W .mul t .f64 _ _ _ (show floatBits .mul .f64 r 4611686018427387904 = some k from d1)
          have HN2 := Lib.hid (show Fp.N x * 2 ^ (a + 1) = Fp.N k * 2 ^ b by rw [Nat.pow_succ, ← Nat.mul_assoc, HN.out, d2, Nat.mul_comm 2, Nat.mul_right_comm])
          clear d1 d2 HN
          go_wp2_with fail
          exact ⟨⟨by trivial, k, a + 1, b, rfl, by go_num, by omega, d4, hb, by omega, by omega, HN2⟩, by show 4611686018427387904 - k < 4611686018427387904 - r; omega⟩
        · rw [decide_eq_false (by omega)] at g2
          have hM : r - 1023 * 4503599627370496 < 4503599627370496 := by omega
          have HE := Lib.hid (show OPost x w (.returned (.int .i64 ((b : Int) - a))) w from ⟨a, b, r - 1023 * 4503599627370496, rfl, hM, by
            rw [Nat.mul_right_comm, HN.out, Fp.N_big (r := r) (by omega), show r / 4503599627370496 - 1 = 1022 by omega, show r % 4503599627370496 = r - 1023 * 4503599627370496 by omega]
            exact oct_pow _ b 1022 (1074 + b) (by omega), by omega, hb, rfl⟩)
          clear HN
          go_wp2_with fail
          go_ret
          exact HE.out
end Go.Proofs.Ytkdlfggghgchjaa
