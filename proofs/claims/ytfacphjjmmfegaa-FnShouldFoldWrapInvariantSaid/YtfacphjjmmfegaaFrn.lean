/-
  Plain facts on rounding to the nearest float64, over the rationals: neighbours, monotony, errors. No condition. (My own helper text, one copy a seat.)
-/
import Derived.Test.YtfacphjjmmfegaaFp
namespace Go.Proofs.Ytfacphjjmmfegaa.Fp
open Ieee

theorem rne_near_hi (m d : Nat) : 2 * m ≤ (2 * rne m d + 1) * 2 ^ d := by
  have h := Nat.div_add_mod m (2 ^ d)
  have hl := Nat.mod_lt m (Nat.two_pow_pos d)
  unfold rne
  generalize m / 2 ^ d = q at *
  generalize m % 2 ^ d = t at *
  have e : 2 ^ d * q = q * 2 ^ d := Nat.mul_comm _ _
  split
  · rw [Nat.mul_add, Nat.add_mul, Nat.add_mul, Nat.mul_assoc]; omega
  · simp only [Nat.add_zero]; rw [Nat.add_mul, Nat.mul_assoc]; omega
theorem rne_near_lo (m d : Nat) : 2 * rne m d * 2 ^ d ≤ 2 * m + 2 ^ d := by
  have h := Nat.div_add_mod m (2 ^ d)
  have hl := Nat.mod_lt m (Nat.two_pow_pos d)
  unfold rne
  generalize m / 2 ^ d = q at *
  generalize m % 2 ^ d = t at *
  have e : 2 ^ d * q = q * 2 ^ d := Nat.mul_comm _ _
  split
  · rw [Nat.mul_add, Nat.add_mul, Nat.mul_assoc]; omega
  · rw [Nat.add_zero, Nat.mul_assoc]; omega

theorem scale_le {X Y D L : Nat} (h : X * 2 ^ D ≤ Y * 2 ^ L) : X * 2 ^ (-((L : Int) - D)).toNat ≤ Y * 2 ^ ((L : Int) - D).toNat := by
  by_cases hc : D ≤ L
  · have a1 : ((L : Int) - D).toNat = L - D := by omega
    have a2 : (-((L : Int) - D)).toNat = 0 := by omega
    rw [a1, a2, Nat.pow_zero, Nat.mul_one]
    have a3 : Y * 2 ^ L = Y * 2 ^ (L - D) * 2 ^ D := by rw [Nat.mul_assoc, ← Nat.pow_add, show L - D + D = L by omega]
    rw [a3] at h
    exact Nat.le_of_mul_le_mul_right h (Nat.two_pow_pos _)
  · have a1 : ((L : Int) - D).toNat = 0 := by omega
    have a2 : (-((L : Int) - D)).toNat = D - L := by omega
    rw [a1, a2, Nat.pow_zero, Nat.mul_one]
    have a3 : X * 2 ^ D = X * 2 ^ (D - L) * 2 ^ L := by rw [Nat.mul_assoc, ← Nat.pow_add, show D - L + L = D by omega]
    rw [a3] at h
    exact Nat.le_of_mul_le_mul_right h (Nat.two_pow_pos _)
theorem scale_ge {X Y D L : Nat} (h : Y * 2 ^ L ≤ X * 2 ^ D) : Y * 2 ^ ((L : Int) - D).toNat ≤ X * 2 ^ (-((L : Int) - D)).toNat := by
  by_cases hc : D ≤ L
  · have a1 : ((L : Int) - D).toNat = L - D := by omega
    have a2 : (-((L : Int) - D)).toNat = 0 := by omega
    rw [a1, a2, Nat.pow_zero, Nat.mul_one]
    have a3 : Y * 2 ^ L = Y * 2 ^ (L - D) * 2 ^ D := by rw [Nat.mul_assoc, ← Nat.pow_add, show L - D + D = L by omega]
    rw [a3] at h
    exact Nat.le_of_mul_le_mul_right h (Nat.two_pow_pos _)
  · have a1 : ((L : Int) - D).toNat = 0 := by omega
    have a2 : (-((L : Int) - D)).toNat = D - L := by omega
    rw [a1, a2, Nat.pow_zero, Nat.mul_one]
    have a3 : X * 2 ^ D = X * 2 ^ (D - L) * 2 ^ L := by rw [Nat.mul_assoc, ← Nat.pow_add, show D - L + L = D by omega]
    rw [a3] at h
    exact Nat.le_of_mul_le_mul_right h (Nat.two_pow_pos _)

/-- Twice the value is at most the sum of the rung and the next one, and its mirror. -/
def hiNear (r mag : Nat) (p : Int) : Prop := 2 * mag * 2 ^ p.toNat ≤ (N r + N (r + 1)) * 2 ^ (-p).toNat
def loNear (r mag : Nat) (p : Int) : Prop := 0 < r → (N (r - 1) + N r) * 2 ^ (-p).toNat ≤ 2 * mag * 2 ^ p.toNat

/-- The nearest rung. -/
theorem nearest_near (neg : Bool) (mag : Nat) (place : Int) : ∃ r, double.nearest neg mag place = wd neg (min r 9218868437227405312) ∧
    hiNear r mag (place + 1074) ∧ loNear r mag (place + 1074) := by
  by_cases h0 : mag = 0
  · subst h0
    refine ⟨0, ?_, ?_, fun h => absurd h (by omega)⟩
    · unfold Format.nearest; rw [if_pos rfl, word_eq]; rfl
    · unfold hiNear; simp
  · have hlog1 := Nat.log2_self_le h0
    have hlog2 : mag < 2 ^ (mag.log2 + 1) := Nat.lt_log2_self
    unfold Format.nearest
    rw [if_neg h0]
    simp only [cut_even, word_eq, e_fb, e_lp, e_bin, e_inf]
    generalize mag.log2 = g at *
    obtain ⟨last, hlast⟩ : ∃ last, last = max (place + (g : Int) - ((52 : Nat) : Int)) (-1074) := ⟨_, rfl⟩
    rw [← hlast]
    have hl : -1074 ≤ last := by omega
    obtain ⟨L, hL⟩ : ∃ L : Nat, last = -1074 + L := ⟨(last + 1074).toNat, by omega⟩
    have e1 : (last - -1074).toNat = L := by omega
    rw [e1]
    by_cases hA : last ≤ place
    · have e2 : (last - place).toNat = 0 := by omega
      rw [e2, rne_zero, Nat.shiftLeft_eq]
      obtain ⟨u, hu⟩ : ∃ u : Nat, place = last + u := ⟨(place - last).toNat, by omega⟩
      have e3 : (place - last).toNat = u := by omega
      rw [e3]
      have hv : mag * 2 ^ u ≤ 9007199254740992 := by
        have h1 : mag * 2 ^ u ≤ 2 ^ (g + 1) * 2 ^ u := Nat.mul_le_mul_right _ (by omega)
        rw [← Nat.pow_add] at h1
        have h2 : 2 ^ (g + 1 + u) ≤ 2 ^ 53 := Nat.pow_le_pow_right (by omega) (by omega)
        omega
      have hw : L = 0 ∨ 4503599627370496 ≤ mag * 2 ^ u := by
        by_cases hL0 : L = 0
        · exact .inl hL0
        · right
          have h1 : 2 ^ g * 2 ^ u ≤ mag * 2 ^ u := Nat.mul_le_mul_right _ hlog1
          rw [← Nat.pow_add] at h1
          have h2 : 2 ^ 52 ≤ 2 ^ (g + u) := Nat.pow_le_pow_right (by omega) (by omega)
          omega
      have hN := N_join L (mag * 2 ^ u) hv hw
      have hp1 : (place + 1074).toNat = u + L := by omega
      have hp2 : (-(place + 1074)).toNat = 0 := by omega
      have hval : mag * 2 ^ (u + L) = N (L * 4503599627370496 + mag * 2 ^ u) := by rw [Nat.pow_add, ← Nat.mul_assoc, ← hN]
      refine ⟨_, rfl, ?_, fun hr => ?_⟩
      · unfold hiNear
        rw [hp1, hp2, Nat.pow_zero, Nat.mul_one, Nat.mul_assoc, hval]
        have := N_succ (L * 4503599627370496 + mag * 2 ^ u)
        omega
      · rw [hp1, hp2, Nat.pow_zero, Nat.mul_one, Nat.mul_assoc, hval]
        have := @N_le (L * 4503599627370496 + mag * 2 ^ u - 1) (L * 4503599627370496 + mag * 2 ^ u) (by omega)
        omega
    · have e3 : (place - last).toNat = 0 := by omega
      rw [e3, Nat.shiftLeft_zero]
      obtain ⟨D, hD⟩ : ∃ D : Nat, last = place + D := ⟨(last - place).toNat, by omega⟩
      have e2 : (last - place).toNat = D := by omega
      rw [e2]
      have hD0 : 0 < D := by omega
      have lo := rne_lo mag D
      have hi := rne_hi mag D
      have nlo := rne_near_lo mag D
      have nhi := rne_near_hi mag D
      have hDp := Nat.two_pow_pos D
      have hLp := Nat.two_pow_pos L
      have hv : rne mag D ≤ 9007199254740992 := by
        have h1 : 2 ^ (g + 1) ≤ 2 ^ (53 + D) := Nat.pow_le_pow_right (by omega) (by omega)
        rw [Nat.pow_add 2 53 D] at h1
        have h2 : rne mag D * 2 ^ D < (2 ^ 53 + 1) * 2 ^ D := by rw [Nat.add_mul]; omega
        have := Nat.lt_of_mul_lt_mul_right h2
        omega
      have hbig : L = 0 ∨ 4503599627370496 * 2 ^ D ≤ mag := by
        by_cases hL0 : L = 0
        · exact .inl hL0
        · right
          have h2 : 2 ^ (52 + D) ≤ 2 ^ g := Nat.pow_le_pow_right (by omega) (by omega)
          rw [Nat.pow_add] at h2
          omega
      have hw : L = 0 ∨ 4503599627370496 ≤ rne mag D := by
        rcases hbig with h | h
        · exact .inl h
        · right
          have h3 : 4503599627370496 * 2 ^ D < (rne mag D + 1) * 2 ^ D := by omega
          have := Nat.lt_of_mul_lt_mul_right h3
          omega
      have hN := N_join L (rne mag D) hv hw
      have hpl : place + 1074 = (L : Int) - D := by omega
      refine ⟨_, rfl, ?_, fun hr => ?_⟩
      · unfold hiNear
        rw [hpl]
        refine scale_ge ?_
        have h1 : (rne mag D + 1) * 2 ^ L ≤ N (L * 4503599627370496 + rne mag D + 1) := by
          by_cases hm : rne mag D = 9007199254740992
          · have h3 := N_le (show (L + 1) * 4503599627370496 + (4503599627370496 + 1) ≤ L * 4503599627370496 + rne mag D + 1 by omega)
            rw [N_join (L + 1) _ (by omega) (by omega), Nat.pow_succ] at h3
            rw [hm] at h3 ⊢
            have : (9007199254740992 + 1) * 2 ^ L ≤ (4503599627370496 + 1) * (2 ^ L * 2) := by
              rw [← Nat.mul_assoc, Nat.mul_right_comm]
              exact Nat.mul_le_mul_right _ (by omega)
            omega
          · have h3 := N_le (show L * 4503599627370496 + (rne mag D + 1) ≤ L * 4503599627370496 + rne mag D + 1 by omega)
            rw [N_join L _ (by omega) (by omega)] at h3
            exact h3
        rw [hN]
        have h4 : 2 * mag * 2 ^ L ≤ (2 * rne mag D + 1) * 2 ^ D * 2 ^ L := Nat.mul_le_mul_right _ nhi
        have h5 : (2 * rne mag D + 1) * 2 ^ L * 2 ^ D ≤ (rne mag D * 2 ^ L + N (L * 4503599627370496 + rne mag D + 1)) * 2 ^ D := by
          refine Nat.mul_le_mul_right _ ?_
          have : (2 * rne mag D + 1) * 2 ^ L = rne mag D * 2 ^ L + (rne mag D + 1) * 2 ^ L := by rw [← Nat.add_mul]; congr 1; omega
          omega
        rw [Nat.mul_right_comm] at h5
        omega
      · rw [hpl]
        refine scale_le ?_
        rw [hN]
        by_cases hm : L = 0 ∨ 4503599627370496 < rne mag D
        · have hpos : 0 < rne mag D := by omega
          have h3 := N_join L (rne mag D - 1) (by omega) (by omega)
          rw [show L * 4503599627370496 + (rne mag D - 1) = L * 4503599627370496 + rne mag D - 1 by omega] at h3
          rw [h3]
          have h4 : (2 * rne mag D - 1) * 2 ^ D ≤ 2 * mag := by
            rw [Nat.sub_mul]; omega
          have h5 := Nat.mul_le_mul_right (2 ^ L) h4
          have e5 : ((rne mag D - 1) * 2 ^ L + rne mag D * 2 ^ L) * 2 ^ D = (2 * rne mag D - 1) * 2 ^ D * 2 ^ L := by
            rw [← Nat.add_mul, Nat.mul_right_comm, show rne mag D - 1 + rne mag D = 2 * rne mag D - 1 by omega]
          rw [e5]; exact h5
        · have hL1 : 0 < L := by omega
          have hK : rne mag D = 4503599627370496 := by omega
          have hb : 4503599627370496 * 2 ^ D ≤ mag := by omega
          have h3 := @N_le (L * 4503599627370496 + rne mag D - 1) (L * 4503599627370496 + rne mag D) (by omega)
          rw [hN] at h3
          have h6 : (N (L * 4503599627370496 + rne mag D - 1) + rne mag D * 2 ^ L) * 2 ^ D ≤ (2 * rne mag D * 2 ^ L) * 2 ^ D := Nat.mul_le_mul_right _ (by rw [Nat.mul_assoc 2]; omega)
          have h7 : 2 * (4503599627370496 * 2 ^ D) * 2 ^ L ≤ 2 * mag * 2 ^ L := Nat.mul_le_mul_right _ (Nat.mul_le_mul_left _ hb)
          refine Nat.le_trans h6 (Nat.le_trans (Nat.le_of_eq ?_) h7)
          rw [hK]; ac_rfl

/-! ### The nearest word, as an order fact on whole numbers -/
theorem ky_nearest (s : Bool) (m : Nat) (p : Int) : ∃ r, double.nearest s m p = wd s (min r 9218868437227405312) ∧ ky (double.nearest s m p) = sn s (min r 9218868437227405312) ∧
    (∀ k, lev k m (p + 1074) → k ≤ r) ∧ (∀ k, gev k m (p + 1074) → r ≤ k) := by
  obtain ⟨r, e, h1, h2⟩ := nearest_spec s m p
  refine ⟨r, e, ?_, h1, h2⟩
  rw [e]; unfold ky; rw [sg_wd (by omega), rg_wd (by omega)]; rfl
theorem zero_of_N {r : Nat} (h : N r = 0) : r = 0 := by
  have := @N_inj r 0; rw [N_zero] at this; exact this h
theorem two_pos (q : Nat) : (0 : Int) < 2 ^ q := by
  have : (0 : Int) < ((2 ^ q : Nat) : Int) := by have := Nat.two_pow_pos q; omega
  simpa using this
theorem cast_le {a b P Q : Nat} (h : (a : Int) * 2 ^ Q ≤ (b : Int) * 2 ^ P) : a * 2 ^ Q ≤ b * 2 ^ P := by
  have e : ((a * 2 ^ Q : Nat) : Int) ≤ ((b * 2 ^ P : Nat) : Int) := by push_cast; exact h
  omega
theorem nearest_ge {s : Bool} {m : Nat} {p : Int} {k : Nat} (hk : fin k) (h : sv k * 2 ^ (-(p + 1074)).toNat ≤ sn s m * 2 ^ (p + 1074).toNat) :
    ky k ≤ ky (double.nearest s m p) := by
  obtain ⟨r, e, ek, h1, h2⟩ := ky_nearest s m p
  rw [ek]
  unfold fin at hk
  have pq := two_pos (-(p + 1074)).toNat
  have pp := two_pos (p + 1074).toNat
  unfold ky key
  unfold sv at h
  cases hs : s <;> cases hg : sg k <;> rw [hs, hg] at h <;> simp only [sn, if_true, if_false, Bool.false_eq_true] at h ⊢
  · have := h1 (rg k) (cast_le h); omega
  · omega
  · have a1 : (0 : Int) ≤ (N (rg k) : Int) * 2 ^ (-(p + 1074)).toNat := Int.mul_nonneg (by omega) (by omega)
    have a2 : (0 : Int) ≤ (m : Int) * 2 ^ (p + 1074).toNat := Int.mul_nonneg (by omega) (by omega)
    rw [Int.neg_mul] at h
    have b1 : (N (rg k) : Int) * 2 ^ (-(p + 1074)).toNat = 0 := by omega
    have b2 : (m : Int) * 2 ^ (p + 1074).toNat = 0 := by omega
    have c1 : rg k = 0 := by
      rcases Int.mul_eq_zero.1 b1 with c | c
      · exact zero_of_N (by omega)
      · omega
    have c2 : m = 0 := by rcases Int.mul_eq_zero.1 b2 with c | c <;> omega
    have := h2 0 (by unfold gev; rw [c2]; simp)
    omega
  · rw [Int.neg_mul, Int.neg_mul] at h
    have := h2 (rg k) (cast_le (by omega)); omega
theorem nearest_le {s : Bool} {m : Nat} {p : Int} {k : Nat} (hk : fin k) (h : sn s m * 2 ^ (p + 1074).toNat ≤ sv k * 2 ^ (-(p + 1074)).toNat) :
    ky (double.nearest s m p) ≤ ky k := by
  obtain ⟨r, e, ek, h1, h2⟩ := ky_nearest s m p
  rw [ek]
  unfold fin at hk
  have pq := two_pos (-(p + 1074)).toNat
  have pp := two_pos (p + 1074).toNat
  unfold ky key
  unfold sv at h
  cases hs : s <;> cases hg : sg k <;> rw [hs, hg] at h <;> simp only [sn, if_true, if_false, Bool.false_eq_true] at h ⊢
  · have := h2 (rg k) (cast_le h); omega
  · have a1 : (0 : Int) ≤ (N (rg k) : Int) * 2 ^ (-(p + 1074)).toNat := Int.mul_nonneg (by omega) (by omega)
    have a2 : (0 : Int) ≤ (m : Int) * 2 ^ (p + 1074).toNat := Int.mul_nonneg (by omega) (by omega)
    rw [Int.neg_mul] at h
    have b1 : (N (rg k) : Int) * 2 ^ (-(p + 1074)).toNat = 0 := by omega
    have b2 : (m : Int) * 2 ^ (p + 1074).toNat = 0 := by omega
    have c1 : rg k = 0 := by
      rcases Int.mul_eq_zero.1 b1 with c | c
      · exact zero_of_N (by omega)
      · omega
    have c2 : m = 0 := by rcases Int.mul_eq_zero.1 b2 with c | c <;> omega
    have := h2 0 (by unfold gev; rw [c2]; simp)
    omega
  · omega
  · rw [Int.neg_mul, Int.neg_mul] at h
    have := h1 (rg k) (cast_le (by omega)); omega

theorem N_gap (r : Nat) : 4503599627370496 * N (r + 1) ≤ 4503599627370496 * N r + N r + 4503599627370496 := by
  by_cases h : r + 1 < 4503599627370496
  · rw [N_small h, N_small (by omega)]; omega
  · by_cases h2 : r < 4503599627370496
    · have : r + 1 = 0 * 4503599627370496 + 4503599627370496 := by omega
      rw [N_small h2, this, N_join 0 _ (by omega) (by omega)]; omega
    · have hq : r = (r / 4503599627370496 - 1) * 4503599627370496 + (4503599627370496 + r % 4503599627370496) := by omega
      have hm := Nat.mod_lt r (show 4503599627370496 > 0 by omega)
      generalize r / 4503599627370496 - 1 = q at hq
      generalize r % 4503599627370496 = m at hq hm
      subst hq
      rw [Nat.add_assoc, N_join q _ (by omega) (by omega), N_join q _ (by omega) (by omega)]
      have hp := Nat.two_pow_pos q
      have h3 : 4503599627370496 * 2 ^ q ≤ (4503599627370496 + m) * 2 ^ q := Nat.mul_le_mul_right _ (by omega)
      have h4 : (4503599627370496 + m + 1) * 2 ^ q = (4503599627370496 + m) * 2 ^ q + 2 ^ q := by rw [Nat.add_mul (4503599627370496 + m) 1, Nat.one_mul]
      omega

/-- The distance to the nearest word, on whole numbers. -/
theorem nearest_dist {m r : Nat} {p : Int} (h1 : hiNear r m p) (h2 : loNear r m p) :
    9007199254740992 * (N r * 2 ^ (-p).toNat) ≤ 9007199254740992 * (m * 2 ^ p.toNat) + m * 2 ^ p.toNat + 4503599627370496 * 2 ^ (-p).toNat ∧
    9007199254740992 * (m * 2 ^ p.toNat) ≤ 9007199254740992 * (N r * 2 ^ (-p).toNat) + m * 2 ^ p.toNat + 4503599627370496 * 2 ^ (-p).toNat := by
  unfold hiNear at h1
  unfold loNear at h2
  have hQ := Nat.two_pow_pos (-p).toNat
  rw [Nat.mul_assoc 2] at h1 h2
  generalize m * 2 ^ p.toNat = V at *
  generalize 2 ^ (-p).toNat = Q at *
  rw [Nat.add_mul] at h1
  have g := Nat.mul_le_mul_right Q (N_gap r)
  rw [Nat.add_mul, Nat.add_mul, Nat.mul_assoc, Nat.mul_assoc] at g
  constructor
  · by_cases hr : 0 < r
    · have h2 := h2 hr
      rw [Nat.add_mul] at h2
      have g2 := Nat.mul_le_mul_right Q (N_gap (r - 1))
      rw [show r - 1 + 1 = r by omega, Nat.add_mul, Nat.add_mul, Nat.mul_assoc, Nat.mul_assoc] at g2
      omega
    · have : r = 0 := by omega
      subst this
      rw [N_zero, Nat.zero_mul] at *; omega
  · omega
theorem nearest_close {m r : Nat} {p : Int} (h1 : hiNear r m p) (h2 : loNear r m p) (k : Nat) :
    (r ≤ k → 2 * (m * 2 ^ p.toNat) ≤ N r * 2 ^ (-p).toNat + N k * 2 ^ (-p).toNat ∨ k = r) ∧ (k < r → N k * 2 ^ (-p).toNat + N r * 2 ^ (-p).toNat ≤ 2 * (m * 2 ^ p.toNat)) := by
  unfold hiNear at h1
  unfold loNear at h2
  rw [Nat.mul_assoc 2] at h1 h2
  constructor
  · intro h
    by_cases e : k = r
    · exact .inr e
    · left
      have := Nat.mul_le_mul_right (2 ^ (-p).toNat) (@N_le (r + 1) k (by omega))
      rw [Nat.add_mul] at h1; omega
  · intro h
    have := Nat.mul_le_mul_right (2 ^ (-p).toNat) (@N_le k (r - 1) (by omega))
    have h2 := h2 (by omega)
    rw [Nat.add_mul] at h2; omega
end Go.Proofs.Ytfacphjjmmfegaa.Fp
