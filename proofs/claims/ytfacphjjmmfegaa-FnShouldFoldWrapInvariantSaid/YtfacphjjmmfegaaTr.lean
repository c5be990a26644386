/-
  Plain facts on float64 words: cutting towards zero; clearing the top bit; one times x. No condition.
-/
import Derived.Test.YtfacphjjmmfegaaFord
namespace Go.Proofs.Ytfacphjjmmfegaa.Fp
open Ieee

/-- The magnitude of a finite word, cut towards zero. -/
def Un : Nat := 2 ^ 1074
theorem pow_pos_of (n m : Nat) (h : m = 2 ^ n) : 0 < m := by rw [h]; exact Nat.two_pow_pos n
theorem Un_pos : 0 < Un := pow_pos_of 1074 Un (by unfold Un; rfl)
def tr (x : Nat) : Nat := N (rg x) / Un

theorem mul_div_two (a n : Nat) : a * 2 ^ n / 2 ^ n = a := Nat.mul_div_cancel _ (Nat.two_pow_pos n)
theorem p52 (n : Nat) : 4503599627370496 * 2 ^ n = 2 ^ (n + 52) := by rw [Nat.pow_add, Nat.mul_comm]
theorem p52' (n j : Nat) (h : n + 52 = j) : 4503599627370496 * 2 ^ n = 2 ^ j := by subst h; exact p52 n
theorem split_two (m k j : Nat) (h : j ≤ k) : m * 2 ^ k = m * 2 ^ (k - j) * 2 ^ j := by rw [Nat.mul_assoc, ← Nat.pow_add, show k - j + j = k by omega]
theorem pow_le (a b : Nat) (h : a ≤ b) : 2 ^ a ≤ 2 ^ b := Nat.pow_le_pow_right (by omega) h
theorem pow_ge_of (n m : Nat) (h : m = 2 ^ n) (hn : 52 ≤ n) : 4503599627370496 ≤ m := by rw [h]; exact pow_le 52 n hn
theorem Un_ge : 4503599627370496 ≤ Un := pow_ge_of 1074 Un (by unfold Un; rfl) (by omega)
theorem mul_two_div (m k j d : Nat) (h : j + d = k) : m * 2 ^ k / 2 ^ j = m * 2 ^ d := by subst h; rw [Nat.pow_add, Nat.mul_comm (2 ^ j), ← Nat.mul_assoc, Nat.mul_div_cancel _ (Nat.two_pow_pos j)]
theorem div_two (m k j d : Nat) (h : k + d = j) : m * 2 ^ k / 2 ^ j = m / 2 ^ d := by subst h; rw [Nat.pow_add, Nat.mul_comm (2 ^ k), Nat.mul_div_mul_right _ _ (Nat.two_pow_pos k)]
theorem div_min (m d : Nat) : m / 1 <<< min d (m.log2 + 2) = m / 2 ^ d := by
  rw [Nat.shiftLeft_eq, Nat.one_mul]
  by_cases h : d ≤ m.log2 + 2
  · rw [Nat.min_eq_left h]
  · rw [Nat.min_eq_right (by omega)]
    have b : m < 2 ^ (m.log2 + 1) := Nat.lt_log2_self
    have c : 2 ^ (m.log2 + 1) ≤ 2 ^ (m.log2 + 2) := Nat.pow_le_pow_right (by omega) (by omega)
    have e : 2 ^ (m.log2 + 1) ≤ 2 ^ d := Nat.pow_le_pow_right (by omega) (by omega)
    rw [Nat.div_eq_of_lt (by omega), Nat.div_eq_of_lt (by omega)]
theorem cut_aux (m k J : Nat) (i : Int) (hi : i = -(J : Int) + k) : (m * 2 ^ i.toNat) / (1 <<< min (-i).toNat ((m * 2 ^ i.toNat).log2 + 2)) = m * 2 ^ k / 2 ^ J := by
  subst hi
  by_cases hk : J ≤ k
  · have e1 : (-(-(J : Int) + (k : Int))).toNat = 0 := by omega
    have e2 : (-(J : Int) + (k : Int)).toNat = k - J := by omega
    rw [e1, e2, split_two m k J hk, mul_div_two]
    simp
  · have e1 : (-(-(J : Int) + (k : Int))).toNat = J - k := by omega
    have e2 : (-(J : Int) + (k : Int)).toNat = 0 := by omega
    have e3 : 2 ^ J = 2 ^ (J - k) * 2 ^ k := by rw [← Nat.pow_add, show J - k + k = J by omega]
    rw [e1, e2, e3, Nat.mul_div_mul_right _ _ (Nat.two_pow_pos k), Nat.pow_zero, Nat.mul_one]
    exact div_min m (J - k)
theorem toInt_fin {x : Nat} (h : fin x) : (double.read x).toInt .zero = some (sn (sg x) (tr x)) := by
  obtain ⟨m, k, e, em, _⟩ := dec_num (s := sg x) h
  rw [read_eq, e]
  unfold Datum.toInt Datum.integral
  simp only [Toward.cut]
  rw [signed_eq, Nat.pow_zero, Nat.mul_one, Nat.shiftLeft_eq]
  unfold tr Un
  rw [← em, Bool.toNat_false, Nat.add_zero, cut_aux m k 1074 _ (by omega)]
theorem toInt_none {x : Nat} (h : ¬ fin x) : (double.read x).toInt .zero = none := by
  rw [read_eq]
  unfold fin at h
  by_cases e : rg x = 9218868437227405312
  · rw [e, dec_inf]; rfl
  · rw [dec_nan (by omega)]; rfl

/-- Any number of at most 53 bits, moved to the left, is some rung's magnitude. -/
theorem exists_rungL {n : Nat} (h : n ≤ 9007199254740992) (L : Nat) : ∃ k, N k = n * 2 ^ L := by
  by_cases h0 : n = 0
  · subst h0; exact ⟨0, by rw [N_zero]; omega⟩
  · by_cases h1 : n = 9007199254740992
    · exact ⟨L * 4503599627370496 + 9007199254740992, by rw [h1]; exact N_join L _ (Nat.le_refl _) (by omega)⟩
    · by_cases h2 : L = 0
      · subst h2; exact ⟨0 * 4503599627370496 + n, N_join 0 n h (by omega)⟩
      · have a := Nat.log2_self_le h0
        have b : n < 2 ^ (n.log2 + 1) := Nat.lt_log2_self
        have hg : n.log2 ≤ 52 := by
          false_or_by_contra
          have : 2 ^ 53 ≤ 2 ^ n.log2 := Nat.pow_le_pow_right (by omega) (by omega)
          omega
        generalize n.log2 = g at *
        by_cases hs : 52 - g ≤ L
        · have c1 : 2 ^ g * 2 ^ (52 - g) = 4503599627370496 := by rw [← Nat.pow_add, show g + (52 - g) = 52 by omega]
          have c2 : 2 ^ (g + 1) * 2 ^ (52 - g) = 9007199254740992 := by rw [← Nat.pow_add, show g + 1 + (52 - g) = 53 by omega]
          have d1 : 4503599627370496 ≤ n * 2 ^ (52 - g) := by rw [← c1]; exact Nat.mul_le_mul_right _ a
          have d2 : n * 2 ^ (52 - g) < 9007199254740992 := by rw [← c2]; exact Nat.mul_lt_mul_of_pos_right b (Nat.two_pow_pos _)
          exact ⟨(L - (52 - g)) * 4503599627370496 + n * 2 ^ (52 - g), by rw [N_join _ _ (by omega) (by omega), Nat.mul_assoc, ← Nat.pow_add, show 52 - g + (L - (52 - g)) = L by omega]⟩
        · have c1 : 2 ^ (g + 1) * 2 ^ L ≤ 4503599627370496 := by
            rw [← Nat.pow_add]
            have q : 2 ^ (g + 1 + L) ≤ 2 ^ 52 := Nat.pow_le_pow_right (by omega) (by omega)
            omega
          have d2 : n * 2 ^ L < 4503599627370496 := Nat.lt_of_lt_of_le (Nat.mul_lt_mul_of_pos_right b (Nat.two_pow_pos _)) c1
          exact ⟨n * 2 ^ L, N_small d2⟩
theorem N_big {r : Nat} (h : 4503599627370496 ≤ r) : N r = (4503599627370496 + r % 4503599627370496) * 2 ^ (r / 4503599627370496 - 1) := by
  unfold N; rw [if_neg (by omega)]
theorem sg_pos {r : Nat} (h : r < 9223372036854775808) : sg r = false := by unfold sg; rw [Nat.div_eq_of_lt h]; rfl
theorem rg_pos {r : Nat} (h : r < 9223372036854775808) : rg r = r := Nat.mod_eq_of_lt h

/-- A word less its top bit's word: exact, and nothing lost. -/
theorem sub_top {r : Nat} (h1 : 4503599627370496 ≤ r) (h2 : r < 9218868437227405312) :
    ∃ k, double.sub r (r / 4503599627370496 * 4503599627370496) = some k ∧ k < r ∧ N r = N k + 2 ^ 52 * 2 ^ (r / 4503599627370496 - 1) := by
  have hq : 1 ≤ r / 4503599627370496 := by omega
  have hm := Nat.mod_lt r (show 4503599627370496 > 0 by omega)
  have hr := Nat.div_add_mod r 4503599627370496
  have eN := N_big h1
  generalize hE : r / 4503599627370496 = E at *
  generalize hM : r % 4503599627370496 = M at *
  have ht1 : E * 4503599627370496 ≤ r := by omega
  have eT : N (E * 4503599627370496) = 4503599627370496 * 2 ^ (E - 1) := by
    have := N_join (E - 1) 4503599627370496 (by omega) (by omega)
    rwa [show (E - 1) * 4503599627370496 + 4503599627370496 = E * 4503599627370496 by omega] at this
  obtain ⟨k, hk⟩ := exists_rungL (n := M) (by omega) (E - 1)
  have hkr : N k < N r := by
    rw [hk, eN]
    exact Nat.mul_lt_mul_of_pos_right (by omega) (Nat.two_pow_pos _)
  have hlt : k < r := N_lt_iff.1 hkr
  refine ⟨k, ?_, hlt, ?_⟩
  · rw [sub_spec (show fin r by unfold fin; rw [rg_pos (by omega)]; omega) (show fin (E * 4503599627370496) by unfold fin; rw [rg_pos (by omega)]; omega)]
    unfold sv
    rw [sg_pos (show r < 9223372036854775808 by omega), sg_pos (show E * 4503599627370496 < 9223372036854775808 by omega), rg_pos (show r < 9223372036854775808 by omega), rg_pos (show E * 4503599627370496 < 9223372036854775808 by omega)]
    unfold sn
    simp only [Bool.false_eq_true, if_false]
    have e : ((N r : Nat) : Int) - ((N (E * 4503599627370496) : Nat) : Int) = ((N k : Nat) : Int) := by
      rw [eN, eT, hk, Nat.add_mul]; omega
    rw [e, Int.natAbs_natCast]
    have ed : decide (((N k : Nat) : Int) < 0) = false := by simp
    rw [ed]
    have : (if ((N k : Nat) : Int) = 0 then (false && !false) else false) = false := by split <;> rfl
    rw [this, rw1_exact, Nat.min_eq_left (by omega)]
    rfl
  · rw [hk, eN, Nat.add_mul, Nat.add_comm]
theorem N_one (n j : Nat) (h : n + 52 = j) : N (n * 4503599627370496 + 4503599627370496) = 2 ^ j := by rw [N_join n _ (by omega) (by omega)]; exact p52' n j h
/-- One times a word of a positive number. -/
theorem one_mul' {r : Nat} (h2 : r < 9218868437227405312) : double.mul 4607182418800017408 r = some r := by
  rw [mul_spec (show fin 4607182418800017408 by decide) (show fin r by unfold fin; rw [rg_pos (by omega)]; omega)]
  rw [sg_pos (show r < 9223372036854775808 by omega), rg_pos (show r < 9223372036854775808 by omega)]
  obtain ⟨J, hJ⟩ : ∃ J : Nat, J = 1074 := ⟨_, rfl⟩
  have e1 : N (rg 4607182418800017408) = 2 ^ J := (congrArg N (show rg 4607182418800017408 = 1022 * 4503599627370496 + 4503599627370496 by decide)).trans (N_one 1022 J (by omega))
  have e2 : sg 4607182418800017408 = false := by decide
  rw [e1, e2, Nat.mul_comm, nearest_shift]
  rw [show (-2148 + (J : Int)) = -1074 by omega]
  show some (rw1 _ _) = _
  rw [show (false ^^ false) = false from rfl, rw1_exact, Nat.min_eq_left (by omega)]
  rfl
/-! ### Words and masks -/
theorem mask_lo {r : Nat} (h : r < 9223372036854775808) : r &&& 9227875636482146303 = r % 4503599627370496 := by
  have a : (r &&& 9227875636482146303) % 2 ^ 52 = r % 2 ^ 52 := by
    rw [Nat.and_mod_two_pow, show 9227875636482146303 % 2 ^ 52 = 2 ^ 52 - 1 by decide, Nat.and_two_pow_sub_one_eq_mod, Nat.mod_mod]
  have b : (r &&& 9227875636482146303) / 2 ^ 52 = r / 2 ^ 52 &&& 2048 := by
    rw [Nat.and_div_two_pow, show 9227875636482146303 / 2 ^ 52 = 2048 by decide]
  have c : (r / 2 ^ 52 &&& 2048) / 2 ^ 11 = 0 := by
    rw [Nat.and_div_two_pow, show r / 2 ^ 52 / 2 ^ 11 = 0 by omega, Nat.zero_and]
  have d : (r / 2 ^ 52 &&& 2048) % 2 ^ 11 = 0 := by
    rw [Nat.and_mod_two_pow, show 2048 % 2 ^ 11 = 0 by decide, Nat.and_zero]
  omega
theorem or_join {E M : Nat} (h : M < 4503599627370496) : M ||| E * 4503599627370496 = E * 4503599627370496 + M := by
  have a : (M ||| E * 4503599627370496) % 2 ^ 52 = M := by
    rw [Nat.or_mod_two_pow, show E * 4503599627370496 % 2 ^ 52 = 0 by omega, Nat.or_zero]; exact Nat.mod_eq_of_lt h
  have b : (M ||| E * 4503599627370496) / 2 ^ 52 = E := by
    rw [Nat.or_div_two_pow, show E * 4503599627370496 / 2 ^ 52 = E by omega, show M / 2 ^ 52 = 0 by omega, Nat.zero_or]
  omega
theorem and_2047 {E : Nat} (h : E < 2048) : E &&& 2047 = E := by
  rw [show 2047 = 2 ^ 11 - 1 by decide, Nat.and_two_pow_sub_one_eq_mod]; exact Nat.mod_eq_of_lt h
/-- Two to the 32nd, in units of the least place. -/
def Yc : Nat := 4294967296 * Un
theorem pow_gen (a b c d : Nat) (h : a + b = c + (32 + d)) : 2 ^ a * 2 ^ b = 2 ^ c * (4294967296 * 2 ^ d) := by
  rw [show (4294967296 : Nat) = 2 ^ 32 by decide, ← Nat.pow_add, ← Nat.pow_add, ← Nat.pow_add, h]
theorem pow_gen2 (n m : Nat) (h : n + 20 = m) : 4503599627370496 * 2 ^ n = 4294967296 * 2 ^ m := by
  subst h
  rw [Nat.pow_add, show (4503599627370496 : Nat) = 4294967296 * 2 ^ 20 by decide, Nat.mul_assoc, Nat.mul_comm (2 ^ 20)]
theorem step_mod {x r k q E : Nat} (hE : 1055 ≤ E) (h : N x = N r + q * Yc) (h2 : N r = N k + 2 ^ 52 * 2 ^ (E - 1)) : N x = N k + (2 ^ (E - 1055) + q) * Yc := by
  have : 2 ^ 52 * 2 ^ (E - 1) = 2 ^ (E - 1055) * Yc := by
    unfold Yc Un
    exact pow_gen 52 (E - 1) (E - 1055) 1074 (by omega)
  rw [h, h2, this, Nat.add_mul]; omega
theorem N_Yc : N 4751297606875873280 = Yc := by
  unfold Yc Un
  exact (N_join 1054 4503599627370496 (by omega) (by omega)).trans (pow_gen2 1054 1074 (by omega))
theorem Yc_div (a q c : Nat) (hc : 0 < c) : (a + q * (4294967296 * c)) / c = a / c + q * 4294967296 := by
  rw [← Nat.mul_assoc, Nat.add_mul_div_right _ _ hc]
theorem tr_mod {f r q : Nat} (hr : r < 9218868437227405312) (h : N (rg f) = N r + q * Yc) : tr f = tr r + q * 4294967296 := by
  unfold tr
  rw [rg_pos (show r < 9223372036854775808 by omega), h]
  unfold Yc
  exact Yc_div _ _ Un Un_pos
theorem div_lt' (a c : Nat) (hc : 0 < c) (h : a < 4294967296 * c) : a / c < 4294967296 := (Nat.div_lt_iff_lt_mul hc).2 h
theorem tr_lt {r : Nat} (h : r < 4751297606875873280) : tr r < 4294967296 := by
  unfold tr
  rw [rg_pos (show r < 9223372036854775808 by omega)]
  have h1 := N_mono h
  rw [N_Yc] at h1
  unfold Yc at h1
  exact div_lt' _ Un Un_pos h1
theorem sn_nabs (s : Bool) (n : Nat) : (sn s n).natAbs = n := by unfold sn; split <;> omega
theorem tr_gen {s : Bool} {n : Nat} {i : Int} (c : Nat) (hc : 0 < c) (h : sn s n = i * (c : Int)) : sn s (n / c) = i := by
  have e : n = i.natAbs * c := by rw [← sn_nabs s n, h, Int.natAbs_mul]; rfl
  rw [e, Nat.mul_div_cancel _ hc]
  have e2 : sn s i.natAbs * (c : Int) = i * (c : Int) := by rw [← sn_mul, ← e]; exact h
  exact Int.eq_of_mul_eq_mul_right (by omega) e2
theorem iw_sv' {n : Int} (h : n.natAbs ≤ 9007199254740992) : sv (iw n) = n * (Un : Int) := by unfold Un; exact iw_sv h
theorem tr_of_sv {f : Nat} {i : Int} (h : sv f = i * (Un : Int)) : sn (sg f) (tr f) = i := tr_gen Un Un_pos h
end Go.Proofs.Ytfacphjjmmfegaa.Fp
