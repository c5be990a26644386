/-
  Floor of a float64 word, and the greater of zero and a word. No condition. (My own helper text, one copy a seat.)
-/
import Derived.Test.YtfacphjjmmfegaaFri
import Derived.Test.YtfacphjjmmfegaaFord
namespace Go.Proofs.Ytfacphjjmmfegaa.Fp
open Ieee
set_option exponentiation.threshold 2000

/-- The unit, as a natural number behind a name. -/
def Uu : Nat := 2 ^ 1074
theorem Uu_pos : 0 < Uu := by unfold Uu; exact Nat.two_pow_pos _
theorem cut_gap (n d : Nat) : ∃ g, 1 <<< min d (n.log2 + 2) = g ∧ 0 < g ∧ n / g = n / 2 ^ d ∧ (n % g = 0 ↔ n % 2 ^ d = 0) := by
  refine ⟨2 ^ min d (n.log2 + 2), by rw [Nat.shiftLeft_eq, Nat.one_mul], Nat.two_pow_pos _, ?_⟩
  by_cases h : d ≤ n.log2 + 2
  · rw [Nat.min_eq_left h]; exact ⟨rfl, Iff.rfl⟩
  · rw [Nat.min_eq_right (by omega)]
    have b : n < 2 ^ (n.log2 + 1) := Nat.lt_log2_self
    have c : 2 ^ (n.log2 + 1) ≤ 2 ^ (n.log2 + 2) := Nat.pow_le_pow_right (by omega) (by omega)
    have e : 2 ^ (n.log2 + 1) ≤ 2 ^ d := Nat.pow_le_pow_right (by omega) (by omega)
    rw [Nat.div_eq_of_lt (by omega), Nat.div_eq_of_lt (by omega), Nat.mod_eq_of_lt (by omega), Nat.mod_eq_of_lt (by omega)]
    exact ⟨rfl, Iff.rfl⟩
theorem cut_down (s : Bool) (n d : Nat) : sn s (Toward.down.cut s n d) * ((2 ^ d : Nat) : Int) ≤ sn s n ∧ sn s n < (sn s (Toward.down.cut s n d) + 1) * ((2 ^ d : Nat) : Int) := by
  obtain ⟨g, e, g0, e1, e2⟩ := cut_gap n d
  unfold Toward.cut
  simp only [e, e1]
  have h0 := Nat.two_pow_pos d
  have h1 := Nat.div_add_mod n (2 ^ d)
  have h2 := Nat.mod_lt n h0
  generalize 2 ^ d = D at *
  generalize n / D = q at *
  have hb : (n % g != 0) = (n % D != 0) := by
    rw [Bool.eq_iff_iff]; simp [e2]
  rw [hb]
  generalize n % D = r at *
  have c1 : ((D * q + r : Nat) : Int) = (q : Int) * D + r := by push_cast; rw [Int.mul_comm]
  rw [← h1]
  cases s
  · simp only [sn, Bool.false_and, Bool.toNat_false, Nat.add_zero, Bool.false_eq_true, if_false]
    rw [c1, Int.add_mul]; omega
  · by_cases hr : r = 0
    · subst hr
      simp only [sn, bne_self_eq_false, Bool.and_false, Bool.toNat_false, Nat.add_zero, if_true]
      have c2 : ((D * q : Nat) : Int) = (q : Int) * D := by push_cast; rw [Int.mul_comm]
      rw [c2, Int.add_mul, Int.neg_mul]; omega
    · have hr' : (r != 0) = true := by simp [hr]
      simp only [sn, hr', Bool.and_true, Bool.toNat_true, if_true]
      rw [c1, show ((q + 1 : Nat) : Int) = (q : Int) + 1 by push_cast; rfl, Int.neg_mul, Int.add_mul, Int.add_mul, Int.neg_mul, Int.add_mul]; omega
theorem rw1_of {s : Bool} {M k : Nat} (h : N k = M) (hk : k < 9218868437227405312) : rw1 s M = wd s k := by
  rw [← h, rw1_exact, Nat.min_eq_left (by omega)]
/-- The floor of a finite word that is no great one. -/
theorem floor_fin {x B : Nat} (h : fin x) (hB : B ≤ 1000000) (hs : N (rg x) ≤ B * Uu) :
    ∃ k M : Nat, double.write ((double.read x).integral .down) = wd (sg x) k ∧ k < 9218868437227405312 ∧ N k = M * Uu ∧ M ≤ B + 1 ∧ (k = 0 ↔ M = 0) ∧
      sn (sg x) M * (Uu : Int) ≤ sv x ∧ sv x < (sn (sg x) M + 1) * (Uu : Int) := by
  obtain ⟨m, i, e, em, _⟩ := dec_num (s := sg x) h
  rw [read_eq, e]
  unfold Datum.integral
  simp only
  obtain ⟨M, hM⟩ : ∃ M, M = Toward.down.cut (sg x) (m <<< (-1074 + (i : Int)).toNat) (-(-1074 + (i : Int))).toNat := ⟨_, rfl⟩
  rw [← hM]
  have hc := cut_down (sg x) (m <<< (-1074 + (i : Int)).toNat) (-(-1074 + (i : Int))).toNat
  rw [← hM] at hc
  have key : sn (sg x) M * (Uu : Int) ≤ sn (sg x) (N (rg x)) ∧ sn (sg x) (N (rg x)) < (sn (sg x) M + 1) * (Uu : Int) := by
    obtain ⟨J, hJ⟩ : ∃ J : Nat, J = 1074 := ⟨_, rfl⟩
    have hU : Uu = 2 ^ J := by rw [hJ]; rfl
    have hi : (-1074 + (i : Int)) = -(J : Int) + i := by omega
    rw [hi] at hc
    rw [hU, ← em]
    clear hU hM em hs
    by_cases hk : J ≤ i
    · have e1 : (-(J : Int) + (i : Int)).toNat = i - J := by omega
      have e2 : (-(-(J : Int) + (i : Int))).toNat = 0 := by omega
      rw [e1, e2, Nat.shiftLeft_eq] at hc
      have e3 : m * 2 ^ i = m * 2 ^ (i - J) * 2 ^ J := by rw [Nat.mul_assoc, ← Nat.pow_add, show i - J + J = i by omega]
      rw [e3, sn_mul]
      have hp : (0 : Int) < ((2 ^ J : Nat) : Int) := Int.natCast_pos.2 (Nat.two_pow_pos J)
      simp only [Nat.pow_zero, Int.natCast_one, Int.mul_one] at hc
      exact ⟨Int.mul_le_mul_of_nonneg_right hc.1 (Int.le_of_lt hp), Int.mul_lt_mul_of_pos_right hc.2 hp⟩
    · have e1 : (-(J : Int) + (i : Int)).toNat = 0 := by omega
      have e2 : (-(-(J : Int) + (i : Int))).toNat = J - i := by omega
      rw [e1, e2, Nat.shiftLeft_eq, Nat.pow_zero, Nat.mul_one] at hc
      have e3 : ((2 ^ J : Nat) : Int) = ((2 ^ (J - i) : Nat) : Int) * ((2 ^ i : Nat) : Int) := by rw [← Int.natCast_mul, ← Nat.pow_add, show J - i + i = J by omega]
      have hp : (0 : Int) < ((2 ^ i : Nat) : Int) := Int.natCast_pos.2 (Nat.two_pow_pos i)
      rw [sn_mul, e3, ← Int.mul_assoc, ← Int.mul_assoc]
      exact ⟨Int.mul_le_mul_of_nonneg_right hc.1 (Int.le_of_lt hp), Int.mul_lt_mul_of_pos_right hc.2 hp⟩
  have hM2 : M ≤ B + 1 := by
    false_or_by_contra
    rename_i hc
    have up := Uu_pos
    generalize Uu = U at *
    generalize N (rg x) = V at *
    have g : (B + 2) * U ≤ M * U := Nat.mul_le_mul_right _ (by omega)
    rw [Nat.add_mul] at g
    obtain ⟨k1, k2⟩ := key
    have g1 : ((M * U : Nat) : Int) = (M : Int) * U := Int.natCast_mul _ _
    generalize B * U = BU at *
    generalize M * U = MU at *
    unfold sn at k1 k2
    cases hs2 : sg x <;> simp only [hs2, if_true, if_false, Bool.false_eq_true, Int.add_mul, Int.neg_mul] at k1 k2 <;> omega
  obtain ⟨k, hk, hf, h0⟩ := exists_rung (n := M) (by omega)
  refine ⟨k, M, ?_, hf, hk, hM2, h0, key.1, key.2⟩
  show double.nearest _ _ _ = _
  have := nearest_units (sg x) M 1074
  rw [show (-1074 + ((1074 : Nat) : Int)) = 0 by omega] at this
  rw [this]
  exact rw1_of hk hf
/-- What math.Max gives. -/
def maxW (x y : Nat) : Nat :=
  if double.read x == .infinity false || double.read y == .infinity false then wd false 9218868437227405312
  else if (double.read x).isNaN || (double.read y).isNaN then 0x7FF8000000000001
  else if (double.read x).isZero && (double.read y).isZero then (if (double.read x).neg == false then x else y)
  else if (double.read x).order (double.read y) == some .gt then x else y
theorem read_num {x : Nat} (h : fin x) : ∃ m i, double.read x = .number (sg x) m i := by
  obtain ⟨m, k, e, _⟩ := dec_num (s := sg x) h
  exact ⟨m, _, by rw [read_eq, e]⟩
theorem max_zero {y : Nat} (h : fin y) : maxW 0 y = if 0 < ky y then y else 0 := by
  obtain ⟨m, i, e⟩ := read_num h
  have e0 : double.read 0 = .number false 0 (-1074) := by decide +kernel
  have o : (double.read 0).order (double.read y) = some (compare (ky 0) (ky y)) := order_words (by decide) (by unfold nan; unfold fin at h; omega)
  unfold maxW
  rw [o, e, e0]
  have k0 : ky 0 = 0 := by decide
  have b1 : ((Datum.number false 0 (-1074) == Datum.infinity false) || (Datum.number (sg y) m i == Datum.infinity false)) = false := by
    rw [Bool.or_eq_false_iff]; exact ⟨by decide, by cases sg y <;> rfl⟩
  rw [b1, k0]
  simp only [Bool.false_eq_true, if_false, Datum.isNaN, Bool.or_false]
  by_cases hp : 0 < ky y
  · rw [if_pos hp]
    have hz : (Datum.number (sg y) m i).isZero = false := by
      cases hz : (Datum.number (sg y) m i).isZero
      · rfl
      · exfalso
        obtain ⟨m', k', e', _, z'⟩ := dec_num (s := sg y) h
        rw [read_eq, e'] at e
        cases e
        have : m = 0 := by
          cases m with
          | zero => rfl
          | succ m => exact absurd hz (by simp [Datum.isZero])
        have hr := z'.1 this
        unfold ky key sn at hp
        rw [hr] at hp
        cases hsg : sg y <;> simp [hsg] at hp
    rw [hz]
    have hc : (some (compare (0 : Int) (ky y)) == some Ordering.gt) = false := by
      rw [cmp_gt]; simp; omega
    rw [hc]; simp
  · rw [if_neg hp]
    have hn : (Datum.number false 0 (-1074)).neg = false := rfl
    rw [hn]
    by_cases hz : ((Datum.number false 0 (-1074)).isZero && (Datum.number (sg y) m i).isZero) = true
    · rw [if_pos hz]; simp
    · rw [if_neg hz]
      have hk : ky y ≠ 0 := by
        intro hk0
        apply hz
        obtain ⟨m', k', e', _, z'⟩ := dec_num (s := sg y) h
        rw [read_eq, e'] at e
        cases e
        have : rg y = 0 := by
          unfold ky key sn at hk0
          cases hsg : sg y <;> simp [hsg] at hk0 <;> omega
        simp [Datum.isZero, z'.2 this]
      have hc : (some (compare (0 : Int) (ky y)) == some Ordering.gt) = true := by
        rw [cmp_gt]; simp; omega
      rw [hc]; simp
/-- The greater of zero and the floor: a whole number's word. -/
theorem max_floor {x B : Nat} (h : fin x) (hB : B ≤ 1000000) (hs : N (rg x) ≤ B * Uu) :
    ∃ (F : Nat) (m : Int), double.write ((double.read x).integral .down) = F ∧ m.natAbs ≤ B + 1 ∧ m * (Uu : Int) ≤ sv x ∧ sv x < (m + 1) * (Uu : Int) ∧ ¬ nan F ∧ maxW 0 F = iw (if 0 < m then m else 0) := by
  obtain ⟨k, M, h1, h2, h3, h4, h0, h5, h6⟩ := floor_fin h hB hs
  refine ⟨_, sn (sg x) M, h1, by unfold sn; split <;> omega, h5, h6, ?_, ?_⟩
  · unfold nan; rw [rg_wd (by omega)]; omega
  · rw [max_zero (by unfold fin; rw [rg_wd (by omega)]; omega)]
    rw [show ky (wd (sg x) k) = sn (sg x) k by unfold ky key; rw [sg_wd (by omega), rg_wd (by omega)]]
    cases hsg : sg x
    · have e1 : sn false k = (k : Int) := rfl
      have e2 : sn false M = (M : Int) := rfl
      rw [e1, e2]
      by_cases hk : k = 0
      · rw [if_neg (by omega), if_neg (by have := h0.1 hk; omega)]; decide +kernel
      · rw [if_pos (by omega), if_pos (by have := fun q => hk (h0.2 q); omega)]
        rw [iw_units]
        rw [show decide ((M : Int) < 0) = false by simp, Int.natAbs_natCast]
        exact (rw1_of h3 h2).symm
    · have e1 : sn true k = -(k : Int) := rfl
      have e2 : sn true M = -(M : Int) := rfl
      rw [e1, e2, if_neg (by omega), if_neg (by omega)]; decide +kernel
end Go.Proofs.Ytfacphjjmmfegaa.Fp
