/-
  Plain facts for the cosine: conversion to an integer, the first two octants, the smallest numbers. No condition.
-/
import Derived.Test.YtkdlfggghgchjaaDoorCdf
import Derived.Test.YtkdlfggghgchjaaDoorFlo
import Derived.Test.YtkdlfggghgchjaaDoorCmt
namespace Go.Proofs.YtkdlfggghgchjaaDoor
open Go.ChangeShapes Go.WideShapes Go.ChangeAt Go.RowKit Fp
set_option linter.unusedVariables false
set_option exponentiation.threshold 2000

theorem cut_zero (s : Bool) (n d : Nat) : Ieee.Toward.zero.cut s n d = n / 2 ^ d := by
  obtain ⟨g, e, g0, e1, e2⟩ := cut_gap n d
  unfold Ieee.Toward.cut
  simp only [e, e1, Bool.toNat_false, Nat.add_zero]
/-- A positive word, cut to an integer. -/
theorem conv_pos {p : Nat} (hp : p < 4751297606875873280) : ∃ n : Nat, floatToIntVal .f64 p .u64 = some (n : Int) ∧ n * Uu ≤ N p ∧ N p < (n + 1) * Uu ∧ n < 4294967296 := by
  have hr : rg p = p := rg_pos (by omega)
  have hs : sg p = false := sg_pos (by omega)
  obtain ⟨m, i, e, em, _⟩ := dec_num (s := sg p) (r := rg p) (by rw [hr]; omega)
  rw [hr] at em
  obtain ⟨M, hM⟩ : ∃ M, M = Ieee.Toward.zero.cut (sg p) (m <<< (-1074 + (i : Int)).toNat) (-(-1074 + (i : Int))).toNat := ⟨_, rfl⟩
  have hto : (Ieee.double.read p).toInt .zero = some (M : Int) := by
    rw [read_eq, e]
    unfold Ieee.Datum.toInt Ieee.Datum.integral
    simp only
    rw [← hM, signed_eq, hs, Nat.pow_zero, Nat.mul_one]; rfl
  have key : M * Uu ≤ N p ∧ N p < (M + 1) * Uu := by
    rw [hM, cut_zero]
    obtain ⟨J, hJ⟩ : ∃ J : Nat, J = 1074 := ⟨_, rfl⟩
    have hU : Uu = 2 ^ J := by rw [hJ]; rfl
    have hi : (-1074 + (i : Int)) = -(J : Int) + i := by omega
    rw [hi, hU, ← em]
    clear hU hM em
    by_cases hk : J ≤ i
    · have e1 : (-(J : Int) + (i : Int)).toNat = i - J := by omega
      have e2 : (-(-(J : Int) + (i : Int))).toNat = 0 := by omega
      rw [e1, e2, Nat.shiftLeft_eq, Nat.pow_zero, Nat.div_one]
      have e3 : m * 2 ^ i = m * 2 ^ (i - J) * 2 ^ J := by rw [Nat.mul_assoc, ← Nat.pow_add, show i - J + J = i by omega]
      rw [e3]
      have := Nat.two_pow_pos J
      exact ⟨Nat.le_refl _, Nat.mul_lt_mul_of_pos_right (by omega) this⟩
    · have e1 : (-(J : Int) + (i : Int)).toNat = 0 := by omega
      have e2 : (-(-(J : Int) + (i : Int))).toNat = J - i := by omega
      rw [e1, e2, Nat.shiftLeft_eq, Nat.pow_zero, Nat.mul_one]
      have e3 : 2 ^ J = 2 ^ (J - i) * 2 ^ i := by rw [← Nat.pow_add, show J - i + i = J by omega]
      rw [e3, ← Nat.mul_assoc, ← Nat.mul_assoc]
      have hd := Nat.div_add_mod m (2 ^ (J - i))
      have hl := Nat.mod_lt m (Nat.two_pow_pos (J - i))
      have h2 := Nat.two_pow_pos i
      constructor
      · exact Nat.mul_le_mul_right _ (by rw [Nat.mul_comm]; omega)
      · exact Nat.mul_lt_mul_of_pos_right (by rw [Nat.add_mul, Nat.mul_comm]; omega) h2
  have hlt : M < 4294967296 := by
    have h1 : N p < N 4751297606875873280 := N_mono hp
    have h2 : N 4751297606875873280 = 4294967296 * Uu := by decide +kernel
    rw [h2] at h1
    exact Nat.lt_of_mul_lt_mul_right (Nat.lt_of_le_of_lt key.1 h1)
  refine ⟨M, ?_, key.1, key.2, hlt⟩
  unfold floatToIntVal
  rw [show FloatKind.f64.decode p = Ieee.double.read p from rfl, hto]
  simp only
  rw [if_pos ⟨by show (0 : Int) ≤ _; omega, by show _ ≤ (18446744073709551615 : Int); omega⟩]
theorem conv_0 {p : Nat} (hp : p < 4607182418800017408) : floatToIntVal .f64 p .u64 = some 0 := by
  obtain ⟨n, h, h1, h2, _⟩ := conv_pos (p := p) (by omega)
  have a : N p < N 4607182418800017408 := N_mono hp
  rw [show N 4607182418800017408 = 1 * Uu by decide +kernel] at a
  have : n < 1 := Nat.lt_of_mul_lt_mul_right (Nat.lt_of_le_of_lt h1 a)
  rw [h, show n = 0 by omega]; rfl
theorem conv_1 {p : Nat} (hp : 4607182418800017408 ≤ p) (hp2 : p < 4611686018427387904) : floatToIntVal .f64 p .u64 = some 1 := by
  obtain ⟨n, h, h1, h2, _⟩ := conv_pos (p := p) (by omega)
  have a : N p < N 4611686018427387904 := N_mono hp2
  have b : N 4607182418800017408 ≤ N p := N_le hp
  rw [show N 4611686018427387904 = 2 * Uu by decide +kernel] at a
  rw [show N 4607182418800017408 = 1 * Uu by decide +kernel] at b
  have c1 : n < 2 := Nat.lt_of_mul_lt_mul_right (Nat.lt_of_le_of_lt h1 a)
  have c2 : 1 < n + 1 := Nat.lt_of_mul_lt_mul_right (Nat.lt_of_le_of_lt b h2)
  rw [h, show n = 1 by omega]; rfl
theorem sub_z {x : Nat} (h : x < 9218868437227405312) : Ieee.double.sub x 0 = some x := by
  have hf : Fp.fin x := by unfold Fp.fin; rw [rg_pos (by omega)]; exact h
  rw [sub_spec hf (by decide)]
  have s1 : sv x = (N x : Int) := by unfold sv; rw [sg_pos (by omega), rg_pos (by omega)]; rfl
  have s2 : sv 0 = 0 := by decide +kernel
  rw [s1, s2, Int.sub_zero, Int.natAbs_natCast, sg_pos (by omega)]
  have : (if ((N x : Nat) : Int) = 0 then (false && !sg 0) else decide (((N x : Nat) : Int) < 0)) = false := by split <;> simp
  rw [this]
  exact congrArg some (rw1_of rfl h)
theorem in_w {l h x : Nat} (h1 : l ≤ x) (h2 : x ≤ h) (h3 : h < 9218868437227405312) : In l h x := by
  refine ⟨?_, ?_, ?_⟩
  · unfold Fp.fin; rw [rg_pos (by omega)]; omega
  · rw [ky_pos (by omega), ky_pos (by omega)]; omega
  · rw [ky_pos (by omega), ky_pos (by omega)]; omega
theorem word_of_ky {x r : Nat} (hx : x < 18446744073709551616) (h : ky x = (r : Int)) (h0 : 0 < r) (hr : r < 9223372036854775808) : x = r := by
  have k := ky_val x
  cases hs : sg x <;> simp only [hs, if_true, if_false, Bool.false_eq_true] at k
  · have := wd_sg_rg hx
    rw [hs] at this
    have h2 : rg x = x := this
    omega
  · omega
/-- A word between two positive words is no negative one. -/
theorem word_pos {l h x : Nat} (hx : x < 18446744073709551616) (i : In l h x) (h0 : 0 < l) (hl : l < 9223372036854775808) (hh : h < 9223372036854775808) : l ≤ x ∧ x ≤ h := by
  have a := i.lo
  have b := i.hi
  rw [ky_pos hl] at a
  rw [ky_pos hh] at b
  have := word_of_ky (x := x) (r := (ky x).toNat) hx (by omega) (by omega) (by omega)
  omega
/-- Near one, on either side. -/
theorem near_one {q : Rat} {r : Nat} (n : Near q r) (h1 : 1 - 1 / 36028797018963968 ≤ q) (h2 : q ≤ 1 + 1 / 36028797018963968) : ky r = 4607182418800017408 := by
  have i : In 4607182418800017400 4607182418800017416 r := n.toRnd.isIn (finB_fin (by decide)) (finB_fin (by decide))
    (by have : val 4607182418800017400 ≤ 1 - 1 / 36028797018963968 := by decide +kernel
        grind) (by have : 1 + 1 / 36028797018963968 ≤ val 4607182418800017416 := by decide +kernel
                   grind)
  have c := n.close i.fin 4607182418800017408
  rw [v_one] at c
  obtain ⟨c1, c2⟩ := c
  have lo : val 4607182418800017407 < val r := by
    have h : val 4607182418800017407 < 1 - 1 / 18014398509481984 := by decide +kernel
    grind
  have hi : val r < val 4607182418800017409 := by
    have h : 1 + 1 / 18014398509481984 < val 4607182418800017409 := by decide +kernel
    grind
  have k1 := val_ky_lt.1 lo
  have k2 := val_ky_lt.1 hi
  rw [show ky 4607182418800017407 = 4607182418800017407 by decide] at k1
  rw [show ky 4607182418800017409 = 4607182418800017409 by decide] at k2
  omega
end Go.Proofs.YtkdlfggghgchjaaDoor
