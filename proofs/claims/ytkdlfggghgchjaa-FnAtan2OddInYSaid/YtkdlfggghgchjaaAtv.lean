/-
  Contracts of math.Atan, Copysign and Atan2. No condition.
-/
import Derived.Test.YtkdlfggghgchjaaAtw
namespace Go.Proofs.Ytkdlfggghgchjaa
open Go.ChangeShapes Go.WideShapes Go.ChangeAt Go.RowKit Fp
set_option linter.unusedVariables false
set_option exponentiation.threshold 2000

/-! ### Plain facts -/
theorem nearest_sign (m : Nat) (p : Int) : ∃ U, U ≤ 9218868437227405312 ∧ ∀ s, Ieee.double.nearest s m p = wd s U := by
  obtain ⟨U, hU, e⟩ := nearest_form false m p
  refine ⟨U, hU, fun s => ?_⟩
  cases s
  · exact e
  · rw [show true = !false from rfl, nearest_neg, e, neg_wd (by omega)]
theorem dec_parts {r : Nat} (h : r < 9218868437227405312) : ∃ (m : Nat) (p : Int), ∀ s, dec s r = .number s m p := by
  unfold dec
  by_cases h1 : r < 4503599627370496
  · exact ⟨r, -1074, fun s => by rw [if_pos h1]⟩
  · exact ⟨_, _, fun s => by rw [if_neg h1, if_pos h]⟩
theorem div_signs {x Y : Nat} (hY : Y < 9218868437227405312) (hx : Fp.fin x) (h0 : rg x ≠ 0) : ∃ U, U ≤ 9218868437227405312 ∧ ∀ y, rg y = Y → Ieee.double.div y x = some (wd (sg y ^^ sg x) U) := by
  obtain ⟨m, p, e⟩ := dec_parts hY
  obtain ⟨n, j, e2, en, n0⟩ := dec_num (s := sg x) hx
  have hn : n ≠ 0 := fun c => h0 (n0.1 c)
  have key : ∃ (F : Nat) (q : Int), ∀ y, rg y = Y → Ieee.double.div y x = some (Ieee.double.nearest (sg y ^^ sg x) F q) := by
    refine ⟨2 * ((m <<< (52 + 2 + n.log2 - m.log2)) / n) + ((m <<< (52 + 2 + n.log2 - m.log2)) % n != 0).toNat, p - (-1074 + j) - (52 + 2 + n.log2 - m.log2 : Nat) - 1, fun y hy => ?_⟩
    unfold Ieee.Format.div
    rw [read_eq, read_eq, hy, e, e2]
    simp only [Ieee.Datum.quotient]
    rw [if_neg hn]
    simp only [Option.map_some, Ieee.Format.write]
    rfl
  obtain ⟨F, q, hk⟩ := key
  obtain ⟨U, hU, hs⟩ := nearest_sign F q
  exact ⟨U, hU, fun y hy => by rw [hk y hy, hs]⟩
/-- Pi, less a number from nothing to 1.8, on both sides. -/
theorem pi_less {S : Nat} (h1 : 0 < S) (h2 : S ≤ 4610785298501913805) : ∃ C, C ≤ 4614256656552045848 ∧ Ieee.double.add (wd true S) 4614256656552045848 = some (wd false C) ∧ Ieee.double.sub S 4614256656552045848 = some (wd true C) := by
  have f1 : Fp.fin (wd true S) := by unfold Fp.fin; rw [rg_wd (by omega)]; omega
  have f2 : Fp.fin S := by unfold Fp.fin; rw [rg_pos (by omega)]; omega
  have f3 : Fp.fin 4614256656552045848 := by decide
  have hN : N S < N 4614256656552045848 := N_mono (by omega)
  have s1 : sv (wd true S) = -(N S : Int) := by unfold sv; rw [sg_wd (by omega), rg_wd (by omega)]; rfl
  have s2 : sv S = (N S : Int) := by unfold sv; rw [sg_pos (by omega), rg_pos (by omega)]; rfl
  have s3 : sv 4614256656552045848 = (N 4614256656552045848 : Int) := by unfold sv; rw [sg_pos (by omega), rg_pos (by omega)]; rfl
  rw [add_spec f1 f3, sub_spec f2 f3, s1, s2, s3]
  generalize N S = a at *
  obtain ⟨b, hb⟩ : ∃ b, b = N 4614256656552045848 := ⟨_, rfl⟩
  rw [← hb] at hN ⊢
  rw [if_neg (by omega), if_neg (by omega), decide_eq_false (by omega), decide_eq_true (by omega), show (-(a : Int) + b).natAbs = b - a by omega, show ((a : Int) - b).natAbs = b - a by omega]
  obtain ⟨C, hC, hs⟩ := nearest_sign (b - a) (-1074)
  refine ⟨C, ?_, by unfold rw1; rw [hs], by unfold rw1; rw [hs]⟩
  obtain ⟨r, hr, e⟩ := rw1_le (neg := false) (M := b - a) (k := 4614256656552045848) (by omega)
  unfold rw1 at e
  rw [hs] at e
  unfold wd at e
  simp at e
  omega
/-! ### Small functions -/
theorem and_top {x : Nat} (h : x < 18446744073709551616) : bits .and .u64 (x : Int) 9223372036854775808 = (((if sg x then 9223372036854775808 else 0 : Nat)) : Int) := by
  have := u64_and_nat x 9223372036854775808 h (by omega)
  rw [show ((9223372036854775808 : Nat) : Int) = 9223372036854775808 from rfl] at this
  rw [this]
  congr 1
  have a : (x &&& 2 ^ 63) % 2 ^ 63 = 0 := by rw [Nat.and_mod_two_pow, Nat.mod_self, Nat.and_zero]
  have b : (x &&& 2 ^ 63) / 2 ^ 63 = x / 2 ^ 63 := by
    rw [Nat.and_div_two_pow, show (2 : Nat) ^ 63 / 2 ^ 63 = 2 ^ 1 - 1 by decide, Nat.and_two_pow_sub_one_eq_mod]; omega
  rw [show (2 : Nat) ^ 63 = 9223372036854775808 by decide] at a b
  unfold sg
  by_cases h1 : x < 9223372036854775808
  · rw [Nat.div_eq_of_lt h1]; simp; omega
  · rw [show x / 9223372036854775808 = 1 by omega]; simp; omega
theorem or_top {c : Nat} (h : c < 9223372036854775808) (s : Bool) : bits .or .u64 (c : Int) (((if s then 9223372036854775808 else 0 : Nat)) : Int) = ((wd s c : Nat) : Int) := by
  have := u64_or_nat c (if s then 9223372036854775808 else 0) (by omega) (by split <;> omega)
  rw [this]
  congr 1
  cases s
  · simp [wd]
  · simp only [if_true, wd]
    have a : (c ||| 2 ^ 63) % 2 ^ 63 = c := by rw [Nat.or_mod_two_pow, Nat.mod_self, Nat.or_zero]; exact Nat.mod_eq_of_lt h
    have b : (c ||| 2 ^ 63) / 2 ^ 63 = 1 := by
      rw [Nat.or_div_two_pow, show (2 : Nat) ^ 63 / 2 ^ 63 = 1 by decide, show c / 2 ^ 63 = 0 from Nat.div_eq_of_lt h]; rfl
    rw [show (9223372036854775808 : Nat) = 2 ^ 63 by decide]
    omega
theorem copysign (c y : Nat) (hc : c < 9223372036854775808) (hy : y < 18446744073709551616) (s : Bool) (hs : sg y = s) (w : World) : Calls Try.prog 25 #[.float .f64 c, .float .f64 y] w fun e w' => e = .returned (.float .f64 (wd s c)) ∧ w = w' := by
  have xb := x_bits
  have xf := x_from
  have ct := clear_top (x := c) (by omega)
  rw [rg_pos hc] at ct
  have at' := and_top hy
  have ot := or_top hc (sg y)
  rw [hs] at at' ot
  clear hs
  generalize (if s = true then 9223372036854775808 else 0 : Nat) = q at *
  go_enter Try.func25, Try.ntmps25
  go_wp2_with fail
  go_ret
  exact ⟨rfl, rfl⟩
theorem signbit (x : Nat) (hx : x < 18446744073709551616) (s : Bool) (hs : sg x = s) (w : World) : Calls Try.prog 24 #[.float .f64 x] w fun e w' => e = .returned (.bool s) ∧ w = w' := by
  have xb := x_bits
  go_enter Try.func24, Try.ntmps24
  go_wp2_with fail
  go_ret
  refine ⟨?_, rfl⟩
  show Ending.returned (.bool _) = _
  congr 2
  rw [← hs]
  unfold Fp.sg wrap64
  by_cases h : x < 9223372036854775808
  · rw [Nat.div_eq_of_lt h, decide_eq_false (by omega)]; rfl
  · rw [show x / 9223372036854775808 = 1 by omega, decide_eq_true (by omega)]; rfl
theorem isNanB (x : Nat) (b : Bool) (h : decide (Fp.nan x) = b) (w : World) : Calls Try.prog 22 #[.float .f64 x] w fun e w' => e = .returned (.bool b) ∧ w = w' := by rw [← h]; exact isNan x w
theorem isInfB (x : Nat) (hx : x < 18446744073709551616) (b : Bool) (h : decide (rg x = 9218868437227405312) = b) (w : World) : Calls Try.prog 26 #[.float .f64 x, .int .i64 0] w fun e w' => e = .returned (.bool b) ∧ w = w' := by rw [← h]; exact isInf x hx w
/-- Of an infinity: is it the positive one? -/
theorem isInf1 (x : Nat) (h : rg x = 9218868437227405312) (b : Bool) (hb : (!sg x) = b) (w : World) : Calls Try.prog 26 #[.float .f64 x, .int .i64 1] w fun e w' => e = .returned (.bool b) ∧ w = w' := by
  have g := f_gt (x := x) (y := 9218868437227405311) (by unfold Fp.nan; omega) (by decide)
  rw [ky_val x, h, ky_pos (by omega)] at g
  have g2 : decide ((9218868437227405311 : Nat) < (if sg x = true then -((9218868437227405312 : Nat) : Int) else ((9218868437227405312 : Nat) : Int))) = b := by
    rw [← hb]; cases sg x <;> rfl
  rw [g2] at g
  clear g2 hb
  cases b <;>
  · go_enter Try.func26, Try.ntmps26
    go_wp2_with fail
    go_ret
    exact ⟨rfl, rfl⟩
theorem nan23 (w : World) : Calls Try.prog 23 #[] w fun e w' => e = .returned (.float .f64 9221120237041090561) ∧ w = w' := by
  have xf := x_from
  go_enter Try.func23, Try.ntmps23
  go_wp2_with fail
  go_ret
  exact ⟨rfl, rfl⟩
theorem neg_wd' {s : Bool} {r : Nat} (h : r < 9223372036854775808) : Op.negFloat .f64 (wd s r) = wd (!s) r := by rw [neg_eq, neg_wd h]
/-- How a word that is no NaN and no zero stands to zero. -/
theorem ord0 {x : Nat} (hn : ¬ Fp.nan x) (h0 : rg x ≠ 0) : (FloatKind.f64.format.order x 0 == some .eq) = false ∧ (FloatKind.f64.format.order x 0 == some .lt) = sg x ∧ (FloatKind.f64.format.order x 0 == some .gt) = !sg x := by
  refine ⟨ord_zero hn h0, ?_, ?_⟩
  · rw [f_lt hn zero_nn, ky_zero, ky_val]; cases sg x <;> simp <;> omega
  · rw [f_gt hn zero_nn, ky_zero, ky_val]; cases sg x <;> simp <;> omega
theorem wd_not_nan {s : Bool} {r : Nat} (h : r ≤ 9218868437227405312) : ¬ Fp.nan (wd s r) := nan_wd h
theorem atan27 (U : Nat) (h0 : 0 < U) (hU : U ≤ 9218868437227405312) : ∃ S, (∀ s w, Calls Try.prog 27 #[.float .f64 (wd s U)] w fun e w' => e = .returned (.float .f64 (wd s S)) ∧ w = w') ∧ 0 < S ∧ S ≤ 4610785298501913805 := by
  obtain ⟨S, hc, s0, s1, s2⟩ := sat39 U h0 hU
  have hS : rg S = S ∧ sg S = false ∧ 0 < S ∧ S ≤ 4610785298501913805 := by
    have k := ky_val S
    cases hg : sg S
    · rw [hg] at k
      simp only [Bool.false_eq_true, if_false] at k
      have hw := wd_sg_rg s0
      rw [hg] at hw
      have hw2 : rg S = S := hw
      exact ⟨hw2, rfl, by omega, by omega⟩
    · rw [hg] at k
      simp only [if_true] at k
      omega
  obtain ⟨hr, hg, p1, p2⟩ := hS
  refine ⟨S, fun s w => ?_, p1, p2⟩
  have HC := Lib.hid hc
  obtain ⟨o1, o2, o3⟩ := ord0 (x := wd s U) (wd_not_nan hU) (by rw [rg_wd (by omega)]; omega)
  rw [sg_wd (by omega)] at o2 o3
  have n1 := neg_wd' (s := s) (r := U) (by omega)
  have n2 := neg_wd' (s := false) (r := S) (by omega)
  cases s
  · rw [show wd false U = U from rfl] at *
    rw [show wd false S = S from rfl]
    clear n1 n2 hr hg p1 p2 s0 s1 s2 hc h0 hU
    go_enter Try.func27, Try.ntmps27
    go_wp2_with (first | (go_at_call 36; go_enter Try.func36, Try.ntmps36) | (go_at_call 39; (with_reducible refine (HC.out _).mono ?_); rintro _ _ ⟨rfl, rfl⟩))
    all_goals (repeat go_ret)
    all_goals exact ⟨rfl, rfl⟩
  · rw [show (!true) = false from rfl, show wd false U = U from rfl] at n1
    rw [show wd false S = S from rfl, show (!false) = true from rfl] at n2
    generalize wd true U = V at *
    generalize wd true S = T at *
    clear hr hg p1 p2 s0 s1 s2 hc h0 hU
    go_enter Try.func27, Try.ntmps27
    go_wp2_with (first | (go_at_call 36; go_enter Try.func36, Try.ntmps36) | (go_at_call 39; (with_reducible refine (HC.out _).mono ?_); rintro _ _ ⟨rfl, rfl⟩))
    all_goals (repeat go_ret)
    all_goals exact ⟨rfl, rfl⟩
theorem atan27z (s : Bool) (w : World) : Calls Try.prog 27 #[.float .f64 (wd s 0)] w fun e w' => e = .returned (.float .f64 (wd s 0)) ∧ w = w' := by
  have o := ord_zero' (x := wd s 0) (rg_wd (by omega))
  generalize wd s 0 = z at *
  go_enter Try.func27, Try.ntmps27
  go_wp2_with (go_at_call 36; go_enter Try.func36, Try.ntmps36)
  all_goals (repeat go_ret)
  all_goals exact ⟨rfl, rfl⟩
end Go.Proofs.Ytkdlfggghgchjaa
