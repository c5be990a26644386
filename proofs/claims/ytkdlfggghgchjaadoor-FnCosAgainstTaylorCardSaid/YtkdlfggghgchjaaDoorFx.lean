/-
  Exact products and quotients of float64 words; words and masks. No condition. (My own helper text, one copy a seat.)
-/
import Derived.Test.YtkdlfggghgchjaaDoorFri
namespace Go.Proofs.YtkdlfggghgchjaaDoor.Fp
open Ieee

theorem exists_rungL {n : Nat} (h : n ≤ 9007199254740992) (L : Nat) : ∃ k, N k = n * 2 ^ L := by
  by_cases h0 : n = 0
  · subst h0; exact ⟨0, by rw [N_zero]; omega⟩
  · by_cases h1 : n = 9007199254740992
    · exact ⟨L * 4503599627370496 + 9007199254740992, by rw [h1]; exact N_join L _ (Nat.le_refl _) (by omega)⟩
    · by_cases h2 : L = 0
      · subst h2; exact ⟨0 * 4503599627370496 + n, N_join 0 n h (by omega)⟩
      · have a := Nat.log2_self_le h0
        have b : n < 2 ^ (n.log2 + 1) := Nat.lt_log2_self
        have hg : n.log2 ≤ 52 := by
          false_or_by_contra
          have : 2 ^ 53 ≤ 2 ^ n.log2 := Nat.pow_le_pow_right (by omega) (by omega)
          omega
        generalize n.log2 = g at *
        by_cases hs : 52 - g ≤ L
        · have c1 : 2 ^ g * 2 ^ (52 - g) = 4503599627370496 := by rw [← Nat.pow_add, show g + (52 - g) = 52 by omega]
          have c2 : 2 ^ (g + 1) * 2 ^ (52 - g) = 9007199254740992 := by rw [← Nat.pow_add, show g + 1 + (52 - g) = 53 by omega]
          have d1 : 4503599627370496 ≤ n * 2 ^ (52 - g) := by rw [← c1]; exact Nat.mul_le_mul_right _ a
          have d2 : n * 2 ^ (52 - g) < 9007199254740992 := by rw [← c2]; exact Nat.mul_lt_mul_of_pos_right b (Nat.two_pow_pos _)
          exact ⟨(L - (52 - g)) * 4503599627370496 + n * 2 ^ (52 - g), by rw [N_join _ _ (by omega) (by omega), Nat.mul_assoc, ← Nat.pow_add, show 52 - g + (L - (52 - g)) = L by omega]⟩
        · have c1 : 2 ^ (g + 1) * 2 ^ L ≤ 4503599627370496 := by
            rw [← Nat.pow_add]
            have q : 2 ^ (g + 1 + L) ≤ 2 ^ 52 := Nat.pow_le_pow_right (by omega) (by omega)
            omega
          have d2 : n * 2 ^ L < 4503599627370496 := Nat.lt_of_lt_of_le (Nat.mul_lt_mul_of_pos_right b (Nat.two_pow_pos _)) c1
          exact ⟨n * 2 ^ L, N_small d2⟩
theorem N_big {r : Nat} (h : 4503599627370496 ≤ r) : N r = (4503599627370496 + r % 4503599627370496) * 2 ^ (r / 4503599627370496 - 1) := by
  unfold N; rw [if_neg (by omega)]
theorem sg_pos {r : Nat} (h : r < 9223372036854775808) : sg r = false := by unfold sg; rw [Nat.div_eq_of_lt h]; rfl
theorem rg_pos {r : Nat} (h : r < 9223372036854775808) : rg r = r := Nat.mod_eq_of_lt h

theorem or_join {E M : Nat} (h : M < 4503599627370496) : M ||| E * 4503599627370496 = E * 4503599627370496 + M := by
  have a : (M ||| E * 4503599627370496) % 2 ^ 52 = M := by
    rw [Nat.or_mod_two_pow, show E * 4503599627370496 % 2 ^ 52 = 0 by omega, Nat.or_zero]; exact Nat.mod_eq_of_lt h
  have b : (M ||| E * 4503599627370496) / 2 ^ 52 = E := by
    rw [Nat.or_div_two_pow, show E * 4503599627370496 / 2 ^ 52 = E by omega, show M / 2 ^ 52 = 0 by omega, Nat.zero_or]
  omega
theorem word_of_ky {r k : Nat} (hr : r < 18446744073709551616) (hk : k < 18446744073709551616) (h0 : rg k ≠ 0) (h : ky r = ky k) : r = k := by
  have a := Nat.div_add_mod r 9223372036854775808
  have b := Nat.div_add_mod k 9223372036854775808
  unfold ky key sn sg rg at h
  unfold rg at h0
  split at h <;> split at h <;> simp_all <;> omega
theorem Rnd.exact {q : Rat} {r k : Nat} (n : Rnd q r) (hk : fin k) (hk2 : k < 18446744073709551616) (h0 : rg k ≠ 0) (e : val k = q) : r = k :=
  word_of_ky n.lt hk2 h0 (Int.le_antisymm (n.le hk (by rw [e]; exact Rat.le_refl)) (n.ge hk (by rw [e]; exact Rat.le_refl)))
theorem val_prod {a b c : Nat} (h : sv a * CC = sv b * sv c) : val a = val b * val c :=
  Rat.le_antisymm (le_prod (Int.le_of_eq h)) (prod_le (Int.le_of_eq h.symm))
theorem sv_pos {k : Nat} (h : k < 9223372036854775808) : sv k = (N k : Int) := by unfold sv; rw [sg_pos h, rg_pos h]; rfl
theorem sv_wd {s : Bool} {k : Nat} (h : k < 9223372036854775808) : sv (wd s k) = sn s (N k) := by unfold sv; rw [sg_wd h, rg_wd h]
theorem fin_pos {k : Nat} (h : k < 9218868437227405312) : fin k := by unfold fin; rw [rg_pos (by omega)]; exact h
theorem N_pos {k : Nat} (h : 0 < k) : 0 < N k := by have := N_mono h; omega
theorem sv_two : sv 4611686018427387904 = 2 * CC := by decide +kernel
theorem sv_52 : sv 4841369599423283200 = 4503599627370496 * CC := by decide +kernel
/-- Doubling. -/
theorem dbl {r : Nat} (h0 : 0 < r) (h1 : r < 4607182418800017408) : ∃ k, double.mul r 4611686018427387904 = some k ∧ N k = 2 * N r ∧ r < k ∧ k < 4611686018427387904 := by
  obtain ⟨K, L, e, hK⟩ := N_parts r
  obtain ⟨k, hk⟩ := exists_rungL (n := K) (by omega) (L + 1)
  have hk2 : N k = 2 * N r := by rw [hk, e, Nat.pow_succ]; rw [← Nat.mul_assoc, Nat.mul_comm]
  have hp := N_pos h0
  have hlt : r < k := N_lt_iff.1 (by omega)
  have e2 : N 4611686018427387904 = 2 * N 4607182418800017408 := by decide +kernel
  have hm := N_mono h1
  have hk3 : k < 4611686018427387904 := N_lt_iff.1 (by omega)
  obtain ⟨r', h1', n⟩ := fmul (fin_pos (k := r) (by omega)) (fin_pos (k := 4611686018427387904) (by omega))
  have : r' = k := n.toRnd.exact (fin_pos (by omega)) (by omega) (by rw [rg_pos (by omega)]; omega) (val_prod (by
    rw [sv_two, sv_pos (k := k) (by omega), sv_pos (k := r) (by omega), hk2, Int.natCast_mul]
    generalize ((N r : Nat) : Int) = a
    show 2 * a * CC = a * (2 * CC)
    rw [Int.mul_comm 2 a, Int.mul_assoc]))
  exact ⟨k, by rw [h1', this], hk2, hlt, hk3⟩
/-- Halving. -/
theorem hlv {r : Nat} (h0 : 4611686018427387904 ≤ r) (h1 : r < 9218868437227405312) : double.div r 4611686018427387904 = some (r - 4503599627370496) ∧ N r = 2 * N (r - 4503599627370496) := by
  have e : N r = 2 * N (r - 4503599627370496) := by
    rw [N_big (r := r) (by omega), N_big (r := r - 4503599627370496) (by omega)]
    rw [show (r - 4503599627370496) % 4503599627370496 = r % 4503599627370496 by omega]
    obtain ⟨j, hj⟩ : ∃ j, r / 4503599627370496 - 1 = j + 1 := ⟨r / 4503599627370496 - 2, by omega⟩
    rw [hj, show (r - 4503599627370496) / 4503599627370496 - 1 = j by omega, Nat.pow_succ, ← Nat.mul_assoc, Nat.mul_comm]
  refine ⟨?_, e⟩
  obtain ⟨r', h1', n, _⟩ := fdiv (fin_pos (k := r) (by omega)) (fin_pos (k := 4611686018427387904) (by omega)) (by decide)
  have : r' = r - 4503599627370496 := n.exact (fin_pos (by omega)) (by omega) (by rw [rg_pos (by omega)]; omega) (by
    have hv : val r = val (r - 4503599627370496) * val 4611686018427387904 := val_prod (by
      rw [sv_two, sv_pos (k := r) (by omega), sv_pos (k := r - 4503599627370496) (by omega), e, Int.natCast_mul]
      generalize ((N (r - 4503599627370496) : Nat) : Int) = a
      show 2 * a * CC = a * (2 * CC)
      rw [Int.mul_comm 2 a, Int.mul_assoc])
    have h2 : val 4611686018427387904 ≠ 0 := by decide +kernel
    rw [hv, Rat.div_def, Rat.mul_assoc, Rat.mul_inv_cancel _ h2, Rat.mul_one])
  rw [h1', this]
/-- A subnormal word times 2 to the 52. -/
theorem nrm (s : Bool) {r : Nat} (h0 : 0 < r) (h1 : r < 4503599627370496) : ∃ k, double.mul (wd s r) 4841369599423283200 = some (wd s k) ∧ N k = r * 4503599627370496 ∧ 4503599627370496 ≤ k ∧ k < 4841369599423283200 := by
  obtain ⟨k, hk⟩ := exists_rungL (n := r) (by omega) 52
  have hk' : N k = r * 4503599627370496 := hk
  have hN1 : N 4503599627370496 = 4503599627370496 := by decide +kernel
  have hk1 : 4503599627370496 ≤ k := N_le_iff.1 (by omega)
  have hN2 : 4503599627370496 * 4503599627370496 ≤ N 4841369599423283200 := by decide +kernel
  have hk2 : k < 4841369599423283200 := N_lt_iff.1 (by omega)
  have hf : fin (wd s r) := by unfold fin; rw [rg_wd (by omega)]; omega
  have hf2 : fin (wd s k) := by unfold fin; rw [rg_wd (by omega)]; omega
  obtain ⟨r', h1', n⟩ := fmul hf (fin_pos (k := 4841369599423283200) (by omega))
  have : r' = wd s k := n.toRnd.exact hf2 (by unfold wd; split <;> omega) (by rw [rg_wd (by omega)]; omega) (val_prod (by
    rw [sv_52, sv_wd (by omega), sv_wd (by omega), hk', N_small h1]
    have : sn s (r * 4503599627370496) = sn s r * 4503599627370496 := by unfold sn; split <;> omega
    rw [this, Int.mul_assoc]))
  exact ⟨k, by rw [h1', this], hk', hk1, hk2⟩
theorem mask_lo {r : Nat} (h : r < 9223372036854775808) : r &&& 9227875636482146303 = r % 4503599627370496 := by
  have a : (r &&& 9227875636482146303) % 2 ^ 52 = r % 2 ^ 52 := by
    rw [Nat.and_mod_two_pow, show 9227875636482146303 % 2 ^ 52 = 2 ^ 52 - 1 by decide, Nat.and_two_pow_sub_one_eq_mod, Nat.mod_mod]
  have b : (r &&& 9227875636482146303) / 2 ^ 52 = r / 2 ^ 52 &&& 2048 := by
    rw [Nat.and_div_two_pow, show 9227875636482146303 / 2 ^ 52 = 2048 by decide]
  have c : (r / 2 ^ 52 &&& 2048) / 2 ^ 11 = 0 := by
    rw [Nat.and_div_two_pow, show r / 2 ^ 52 / 2 ^ 11 = 0 by omega, Nat.zero_and]
  have d : (r / 2 ^ 52 &&& 2048) % 2 ^ 11 = 0 := by
    rw [Nat.and_mod_two_pow, show 2048 % 2 ^ 11 = 0 by decide, Nat.and_zero]
  omega
theorem and_2047' (E : Nat) : E &&& 2047 = E % 2048 := by
  rw [show 2047 = 2 ^ 11 - 1 by decide, Nat.and_two_pow_sub_one_eq_mod]
theorem mask_wd (s : Bool) {k : Nat} (h : k < 9218868437227405312) : wd s k &&& 9227875636482146303 = wd s (k % 4503599627370496) := by
  have e : ∀ y, y < 9223372036854775808 → y &&& 9227875636482146303 = y % 4503599627370496 := fun y h => mask_lo h
  unfold wd
  split
  · have a : (9223372036854775808 + k &&& 9227875636482146303) % 2 ^ 63 = k % 4503599627370496 := by
      rw [Nat.and_mod_two_pow, show (9223372036854775808 + k) % 2 ^ 63 = k by omega, show 9227875636482146303 % 2 ^ 63 = 4503599627370495 by decide, show 4503599627370495 = 2 ^ 52 - 1 by decide, Nat.and_two_pow_sub_one_eq_mod]
    have b : (9223372036854775808 + k &&& 9227875636482146303) / 2 ^ 63 = 1 := by
      rw [Nat.and_div_two_pow, show (9223372036854775808 + k) / 2 ^ 63 = 1 by omega, show 9227875636482146303 / 2 ^ 63 = 1 by decide]; rfl
    omega
  · exact e k (by omega)
theorem or_wd (s : Bool) {M : Nat} (h : M < 4503599627370496) : wd s M ||| 4602678819172646912 = wd s (1022 * 4503599627370496 + M) := by
  have e := or_join (E := 1022) h
  rw [show 1022 * 4503599627370496 = 4602678819172646912 by decide] at e ⊢
  unfold wd
  split
  · have a : (9223372036854775808 + M ||| 4602678819172646912) % 2 ^ 63 = 4602678819172646912 + M := by
      rw [Nat.or_mod_two_pow, show (9223372036854775808 + M) % 2 ^ 63 = M by omega, show 4602678819172646912 % 2 ^ 63 = 4602678819172646912 by decide, e]
    have b : (9223372036854775808 + M ||| 4602678819172646912) / 2 ^ 63 = 1 := by
      rw [Nat.or_div_two_pow, show (9223372036854775808 + M) / 2 ^ 63 = 1 by omega, show 4602678819172646912 / 2 ^ 63 = 0 by decide]; rfl
    omega
  · exact e
/-- The exponent is told by the value. -/
theorem expo {M M' a b : Nat} (h1 : M < 4503599627370496) (h2 : M' < 4503599627370496) (h : (4503599627370496 + M) * 2 ^ a = (4503599627370496 + M') * 2 ^ b) : a = b := by
  have key : ∀ {M M' a b : Nat}, M < 4503599627370496 → M' < 4503599627370496 → (4503599627370496 + M) * 2 ^ a = (4503599627370496 + M') * 2 ^ b → ¬ a < b := fun {M M' a b} h1 h2 h hab => by
    obtain ⟨d, rfl⟩ : ∃ d, b = a + (d + 1) := ⟨b - a - 1, by omega⟩
    rw [Nat.pow_add, ← Nat.mul_assoc, Nat.mul_right_comm] at h
    have h3 := Nat.eq_of_mul_eq_mul_right (Nat.two_pow_pos a) h
    rw [Nat.pow_succ] at h3
    have := Nat.two_pow_pos d
    have h4 : (4503599627370496 + M') * 2 ≤ (4503599627370496 + M') * (2 ^ d * 2) := Nat.mul_le_mul_left _ (by omega)
    omega
  have := key h1 h2 h
  have := key h2 h1 h.symm
  omega
end Go.Proofs.YtkdlfggghgchjaaDoor.Fp
