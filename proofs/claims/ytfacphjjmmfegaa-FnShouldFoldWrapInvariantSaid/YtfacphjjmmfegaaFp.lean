/-
  Plain facts on float64 words after Ieee: reading, order by signed rungs, correct rounding. No condition. (My own helper text, one copy a seat.)
-/
import Ieee.Arith
namespace Go.Proofs.Ytfacphjjmmfegaa.Fp
open Ieee

theorem e_sw : double.signWeight = 9223372036854775808 := by decide
theorem e_bin : double.binade = 4503599627370496 := by decide
theorem e_inf : double.infRung = 9218868437227405312 := by decide
theorem e_lp : double.leastPlace = -1074 := by decide
theorem e_fb : double.fractionBits = 52 := by decide

/-- The magnitude of a rung in units of the least place. -/
def N (r : Nat) : Nat := if r < 4503599627370496 then r else (4503599627370496 + r % 4503599627370496) * 2 ^ (r / 4503599627370496 - 1)

theorem N_small {r : Nat} (h : r < 4503599627370496) : N r = r := by unfold N; rw [if_pos h]

theorem N_join (L K : Nat) (hK : K ≤ 9007199254740992) (h : L = 0 ∨ 4503599627370496 ≤ K) : N (L * 4503599627370496 + K) = K * 2 ^ L := by
  by_cases hs : L * 4503599627370496 + K < 4503599627370496
  · rw [N_small hs]
    have : L = 0 := by omega
    subst this; omega
  · unfold N; rw [if_neg hs]
    by_cases hK2 : K = 9007199254740992
    · subst hK2
      have e1 : (L * 4503599627370496 + 9007199254740992) % 4503599627370496 = 0 := by omega
      have e2 : (L * 4503599627370496 + 9007199254740992) / 4503599627370496 = L + 2 := by omega
      rw [e1, e2]
      show (4503599627370496 + 0) * 2 ^ (L + 1) = _
      rw [Nat.pow_succ]; omega
    · have hK3 : 4503599627370496 ≤ K := by omega
      have e1 : (L * 4503599627370496 + K) % 4503599627370496 = K - 4503599627370496 := by omega
      have e2 : (L * 4503599627370496 + K) / 4503599627370496 = L + 1 := by omega
      rw [e1, e2]
      show (4503599627370496 + (K - 4503599627370496)) * 2 ^ L = _
      rw [show 4503599627370496 + (K - 4503599627370496) = K by omega]

theorem N_succ (r : Nat) : N r < N (r + 1) := by
  by_cases h : r + 1 < 4503599627370496
  · rw [N_small h, N_small (by omega)]; omega
  · have hp : ∀ q : Nat, 0 < 2 ^ q := fun q => Nat.two_pow_pos q
    by_cases h2 : r < 4503599627370496
    · have : r + 1 = 0 * 4503599627370496 + 4503599627370496 := by omega
      rw [N_small h2, this, N_join 0 _ (by omega) (by omega)]; omega
    · have hq : r = (r / 4503599627370496 - 1) * 4503599627370496 + (4503599627370496 + r % 4503599627370496) := by omega
      have hm := Nat.mod_lt r (show 4503599627370496 > 0 by omega)
      generalize r / 4503599627370496 - 1 = q at hq
      generalize r % 4503599627370496 = m at hq hm
      subst hq
      rw [Nat.add_assoc, N_join q _ (by omega) (by omega), N_join q _ (by omega) (by omega)]
      exact Nat.mul_lt_mul_of_pos_right (by omega) (hp q)

theorem N_mono {a b : Nat} (h : a < b) : N a < N b := by
  induction b with
  | zero => omega
  | succ b ih =>
    by_cases e : a = b
    · subst e; exact N_succ a
    · exact Nat.lt_trans (ih (by omega)) (N_succ b)

theorem N_le {a b : Nat} (h : a ≤ b) : N a ≤ N b := by
  by_cases e : a = b
  · subst e; exact Nat.le_refl _
  · exact Nat.le_of_lt (N_mono (by omega))

theorem N_lt_iff {a b : Nat} : N a < N b ↔ a < b := ⟨fun h => by false_or_by_contra; have := N_le (show b ≤ a by omega); omega, N_mono⟩
theorem N_le_iff {a b : Nat} : N a ≤ N b ↔ a ≤ b := ⟨fun h => by false_or_by_contra; have := N_mono (show b < a by omega); omega, N_le⟩
theorem N_inj {a b : Nat} (h : N a = N b) : a = b := by
  have h1 := N_le_iff.1 (Nat.le_of_eq h); have h2 := N_le_iff.1 (Nat.le_of_eq h.symm); omega
theorem N_zero : N 0 = 0 := rfl

/-- What a sign and a rung stand for. -/
def dec (neg : Bool) (rung : Nat) : Datum :=
  if rung < 4503599627370496 then .number neg rung (-1074)
  else if rung < 9218868437227405312 then .number neg (4503599627370496 + rung % 4503599627370496) (-1074 + (rung / 4503599627370496 - 1 : Nat))
  else if rung = 9218868437227405312 then .infinity neg
  else .nan neg (rung - 9218868437227405312)

/-- Sign and rung of a word. -/
def sg (x : Nat) : Bool := x / 9223372036854775808 % 2 == 1
def rg (x : Nat) : Nat := x % 9223372036854775808
def wd (neg : Bool) (rung : Nat) : Nat := if neg then 9223372036854775808 + rung else rung

theorem word_eq (neg : Bool) (r : Nat) : double.word neg r = wd neg r := by unfold Format.word wd; rw [e_sw]
theorem read_eq (x : Nat) : double.read x = dec (sg x) (rg x) := by
  unfold Format.read dec sg rg
  rw [e_sw, e_bin, e_inf, e_lp]
theorem rg_lt (x : Nat) : rg x < 9223372036854775808 := Nat.mod_lt _ (by omega)
theorem sg_wd {neg : Bool} {r : Nat} (h : r < 9223372036854775808) : sg (wd neg r) = neg := by
  unfold sg wd
  cases neg
  · rw [if_neg (by simp), Nat.div_eq_of_lt h]; rfl
  · rw [if_pos rfl, show (9223372036854775808 + r) / 9223372036854775808 = 1 by omega]; rfl
theorem rg_wd {neg : Bool} {r : Nat} (h : r < 9223372036854775808) : rg (wd neg r) = r := by
  unfold rg wd; cases neg
  · rw [if_neg (by simp), Nat.mod_eq_of_lt h]
  · rw [if_pos rfl]; omega
theorem read_wd {neg : Bool} {r : Nat} (h : r < 9223372036854775808) : double.read (wd neg r) = dec neg r := by rw [read_eq, sg_wd h, rg_wd h]
theorem wd_sg_rg {x : Nat} (h : x < 18446744073709551616) : wd (sg x) (rg x) = x := by
  unfold wd sg rg
  by_cases hx : x < 9223372036854775808
  · rw [Nat.div_eq_of_lt hx]; simp; omega
  · have : x / 9223372036854775808 = 1 := by omega
    rw [this]; simp; omega

theorem dec_num {s : Bool} {r : Nat} (h : r < 9218868437227405312) : ∃ m k : Nat, dec s r = .number s m (-1074 + k) ∧ m * 2 ^ k = N r ∧ (m = 0 ↔ r = 0) := by
  unfold dec
  by_cases h1 : r < 4503599627370496
  · rw [if_pos h1]; exact ⟨r, 0, rfl, by rw [N_small h1]; omega, Iff.rfl⟩
  · rw [if_neg h1, if_pos h]
    refine ⟨_, _, rfl, ?_, by omega⟩
    unfold N; rw [if_neg h1]
theorem dec_inf (s : Bool) : dec s 9218868437227405312 = .infinity s := by unfold dec; rw [if_neg (by omega), if_neg (by omega), if_pos rfl]
theorem dec_nan {s : Bool} {r : Nat} (h : 9218868437227405312 < r) : dec s r = .nan s (r - 9218868437227405312) := by
  unfold dec; rw [if_neg (by omega), if_neg (by omega), if_neg (by omega)]

/-- A magnitude with its sign. -/
def sn (s : Bool) (n : Nat) : Int := if s then -(n : Int) else n
theorem signed_eq (s : Bool) (m k : Nat) : signed s m k = sn s (m * 2 ^ k) := by
  unfold signed sn; rw [Nat.shiftLeft_eq]

theorem compare_scale (a b : Int) (c : Nat) (hc : 0 < c) : compare (a * c) (b * c) = compare a b := by
  have hc' : (0 : Int) < c := by omega
  rcases Int.lt_trichotomy a b with h | h | h
  · rw [Int.compare_eq_lt.2 h, Int.compare_eq_lt.2 (Int.mul_lt_mul_of_pos_right h hc')]
  · subst h; simp
  · rw [Int.compare_eq_gt.2 h, Int.compare_eq_gt.2 (Int.mul_lt_mul_of_pos_right h hc')]
theorem sn_mul (s : Bool) (a c : Nat) : sn s (a * c) = sn s a * c := by unfold sn; split <;> simp [Int.neg_mul]

theorem order_num (s t : Bool) (m n i j : Nat) : Datum.order (.number s m (-1074 + i)) (.number t n (-1074 + j)) = some (compare (sn s (m * 2 ^ i)) (sn t (n * 2 ^ j))) := by
  unfold Datum.order
  simp only [signed_eq]
  have hb : min (-1074 + (i : Int)) (-1074 + j) = -1074 + (min i j : Nat) := by omega
  rw [hb]
  have e1 : (-1074 + (i : Int) - (-1074 + (min i j : Nat))).toNat = i - min i j := by omega
  have e2 : (-1074 + (j : Int) - (-1074 + (min i j : Nat))).toNat = j - min i j := by omega
  rw [e1, e2, ← compare_scale _ _ (2 ^ min i j) (Nat.two_pow_pos _), ← sn_mul, ← sn_mul, Nat.mul_assoc, Nat.mul_assoc, ← Nat.pow_add, ← Nat.pow_add]
  rw [show i - min i j + min i j = i by omega, show j - min i j + min i j = j by omega]

/-- The signed rung. -/
def key (s : Bool) (r : Nat) : Int := sn s r

theorem compare_sn (s t : Bool) {a b : Nat} : compare (sn s (N a)) (sn t (N b)) = compare (key s a) (key t b) := by
  have h0 : N 0 = 0 := rfl
  have l1 := @N_lt_iff a b; have l2 := @N_lt_iff b a; have l3 := @N_lt_iff 0 a; have l4 := @N_lt_iff 0 b
  rw [h0] at l3 l4
  have key_lt : sn s (N a) < sn t (N b) ↔ key s a < key t b := by
    unfold key sn; cases s <;> cases t <;> simp <;> omega
  have key_gt : sn t (N b) < sn s (N a) ↔ key t b < key s a := by
    unfold key sn; cases s <;> cases t <;> simp <;> omega
  rcases Int.lt_trichotomy (key s a) (key t b) with h | h | h
  · rw [Int.compare_eq_lt.2 h, Int.compare_eq_lt.2 (key_lt.2 h)]
  · have : sn s (N a) = sn t (N b) := by have h1 := fun q => Int.lt_irrefl _ (h ▸ key_lt.1 q); have h2 := fun q => Int.lt_irrefl _ (h ▸ key_gt.1 q); omega
    rw [h, this]; simp
  · rw [Int.compare_eq_gt.2 h, Int.compare_eq_gt.2 (key_gt.2 h)]

theorem order_dec {s t : Bool} {a b : Nat} (ha : a ≤ 9218868437227405312) (hb : b ≤ 9218868437227405312) :
    Datum.order (dec s a) (dec t b) = some (compare (key s a) (key t b)) := by
  by_cases ha' : a = 9218868437227405312
  · subst ha'
    rw [dec_inf]
    by_cases hb' : b = 9218868437227405312
    · subst hb'; rw [dec_inf]; cases s <;> cases t <;> rfl
    · obtain ⟨n, j, e, _, _⟩ := dec_num (s := t) (show b < 9218868437227405312 by omega)
      rw [e]; unfold Datum.order key sn
      cases s
      · rw [Int.compare_eq_gt.2]; rfl
        cases t <;> simp <;> omega
      · rw [Int.compare_eq_lt.2]; rfl
        cases t <;> simp <;> omega
  · obtain ⟨m, i, e, em, _⟩ := dec_num (s := s) (show a < 9218868437227405312 by omega)
    rw [e]
    by_cases hb' : b = 9218868437227405312
    · subst hb'; rw [dec_inf]; unfold Datum.order key sn
      cases t
      · rw [Int.compare_eq_lt.2]; rfl
        cases s <;> simp <;> omega
      · rw [Int.compare_eq_gt.2]; rfl
        cases s <;> simp <;> omega
    · obtain ⟨n, j, e2, en, _⟩ := dec_num (s := t) (show b < 9218868437227405312 by omega)
      rw [e2, order_num, em, en, compare_sn]

/-- The word is a NaN. -/
def nan (x : Nat) : Prop := 9218868437227405312 < rg x
instance (x : Nat) : Decidable (nan x) := inferInstanceAs (Decidable (_ < _))
def ky (x : Nat) : Int := key (sg x) (rg x)

theorem order_words {x y : Nat} (hx : ¬ nan x) (hy : ¬ nan y) : double.order x y = some (compare (ky x) (ky y)) := by
  unfold Format.order; rw [read_eq, read_eq, order_dec (by unfold nan at hx; omega) (by unfold nan at hy; omega)]; rfl
theorem order_nan {x y : Nat} (h : nan x ∨ nan y) : double.order x y = none := by
  unfold Format.order; rw [read_eq, read_eq]
  rcases h with h | h
  · rw [dec_nan h]; rfl
  · rw [dec_nan h]; cases dec (sg x) (rg x) <;> rfl

/-! ### Rounding -/

/-- 'm / 2 ^ d' to the nearest whole number, ties to even. -/
def rne (m d : Nat) : Nat := m / 2 ^ d + (if 2 ^ d < 2 * (m % 2 ^ d) ∨ (2 ^ d = 2 * (m % 2 ^ d) ∧ m / 2 ^ d % 2 = 1) then 1 else 0)

theorem rne_lo (m d : Nat) : m < (rne m d + 1) * 2 ^ d := by
  have h := Nat.div_add_mod m (2 ^ d)
  have hl := Nat.mod_lt m (Nat.two_pow_pos d)
  have : (m / 2 ^ d + 1) * 2 ^ d ≤ (rne m d + 1) * 2 ^ d := Nat.mul_le_mul_right _ (by unfold rne; omega)
  rw [Nat.add_mul, Nat.mul_comm (m / 2 ^ d)] at this
  omega
theorem rne_hi (m d : Nat) : rne m d * 2 ^ d < m + 2 ^ d := by
  have h := Nat.div_add_mod m (2 ^ d)
  have hp := Nat.two_pow_pos d
  unfold rne
  split
  · rename_i hc
    rw [Nat.add_mul, Nat.mul_comm (m / 2 ^ d)]
    omega
  · rw [Nat.add_zero, Nat.mul_comm]; omega
theorem rne_zero (m : Nat) : rne m 0 = m := by simp [rne, Nat.mod_one]

theorem cut_even (neg : Bool) (n drop : Nat) : Toward.even.cut neg n drop = rne n drop := by
  unfold Toward.cut
  simp only [Nat.shiftLeft_eq, Nat.one_mul]
  by_cases h : drop ≤ n.log2 + 2
  · rw [Nat.min_eq_left h]
    unfold rne
    by_cases c1 : 2 ^ drop < 2 * (n % 2 ^ drop)
    · simp [c1]
    · by_cases c2 : 2 ^ drop = 2 * (n % 2 ^ drop)
      · by_cases c3 : n / 2 ^ drop % 2 = 1
        · simp [c3, ← c2]
        · simp [c3, ← c2]
      · simp [c1, c2]
  · rw [Nat.min_eq_right (by omega)]
    have hn : n < 2 ^ (n.log2 + 1) := Nat.lt_log2_self
    have h4 : 2 ^ (n.log2 + 2) = 2 * 2 ^ (n.log2 + 1) := by rw [Nat.pow_succ]; omega
    have h5 : 2 ^ (n.log2 + 2) ≤ 2 ^ drop := Nat.pow_le_pow_right (by omega) (by omega)
    have d1 : n / 2 ^ (n.log2 + 2) = 0 := Nat.div_eq_of_lt (by omega)
    have m1 : n % 2 ^ (n.log2 + 2) = n := Nat.mod_eq_of_lt (by omega)
    have d2 : n / 2 ^ drop = 0 := Nat.div_eq_of_lt (by omega)
    have m2 : n % 2 ^ drop = n := Nat.mod_eq_of_lt (by omega)
    unfold rne
    rw [d1, m1, d2, m2, if_neg (by omega)]
    have : ¬ 2 ^ (n.log2 + 2) < 2 * n := by omega
    simp [this]

/-- 'N k' is at most 'mag * 2 ^ p' (in units of the least place), and its mirror. -/
def lev (k mag : Nat) (p : Int) : Prop := N k * 2 ^ (-p).toNat ≤ mag * 2 ^ p.toNat
def gev (k mag : Nat) (p : Int) : Prop := mag * 2 ^ p.toNat ≤ N k * 2 ^ (-p).toNat

/-- CORRECT ROUNDING: the word's rung is the greatest and the least that the value allows. -/
theorem nearest_spec (neg : Bool) (mag : Nat) (place : Int) : ∃ r, double.nearest neg mag place = wd neg (min r 9218868437227405312) ∧
    (∀ k, lev k mag (place + 1074) → k ≤ r) ∧ (∀ k, gev k mag (place + 1074) → r ≤ k) := by
  by_cases h0 : mag = 0
  · subst h0
    refine ⟨0, ?_, fun k hk => ?_, fun k _ => Nat.zero_le _⟩
    · unfold Format.nearest; rw [if_pos rfl, word_eq]; rfl
    · unfold lev at hk
      rw [Nat.zero_mul] at hk
      have hp := Nat.two_pow_pos (-(place + 1074)).toNat
      have : N k = 0 := by
        rcases Nat.eq_zero_or_pos (N k) with h | h
        · exact h
        · have := Nat.mul_pos h hp; omega
      have := N_inj (this.trans N_zero.symm)
      omega
  · have hlog1 := Nat.log2_self_le h0
    have hlog2 : mag < 2 ^ (mag.log2 + 1) := Nat.lt_log2_self
    unfold Format.nearest
    rw [if_neg h0]
    simp only [cut_even, word_eq, e_fb, e_lp, e_bin, e_inf]
    generalize mag.log2 = g at *
    obtain ⟨last, hlast⟩ : ∃ last, last = max (place + (g : Int) - ((52 : Nat) : Int)) (-1074) := ⟨_, rfl⟩
    rw [← hlast]
    have hl : -1074 ≤ last := by omega
    obtain ⟨L, hL⟩ : ∃ L : Nat, last = -1074 + L := ⟨(last + 1074).toNat, by omega⟩
    have e1 : (last - -1074).toNat = L := by omega
    rw [e1]
    by_cases hA : last ≤ place
    · -- exact
      have e2 : (last - place).toNat = 0 := by omega
      rw [e2, rne_zero, Nat.shiftLeft_eq]
      obtain ⟨u, hu⟩ : ∃ u : Nat, place = last + u := ⟨(place - last).toNat, by omega⟩
      have e3 : (place - last).toNat = u := by omega
      rw [e3]
      have hv : mag * 2 ^ u ≤ 9007199254740992 := by
        have h1 : mag * 2 ^ u ≤ 2 ^ (g + 1) * 2 ^ u := Nat.mul_le_mul_right _ (by omega)
        rw [← Nat.pow_add] at h1
        have h2 : 2 ^ (g + 1 + u) ≤ 2 ^ 53 := Nat.pow_le_pow_right (by omega) (by omega)
        omega
      have hw : L = 0 ∨ 4503599627370496 ≤ mag * 2 ^ u := by
        by_cases hL0 : L = 0
        · exact .inl hL0
        · right
          have h1 : 2 ^ g * 2 ^ u ≤ mag * 2 ^ u := Nat.mul_le_mul_right _ hlog1
          rw [← Nat.pow_add] at h1
          have h2 : 2 ^ 52 ≤ 2 ^ (g + u) := Nat.pow_le_pow_right (by omega) (by omega)
          omega
      have hN := N_join L (mag * 2 ^ u) hv hw
      have hp1 : (place + 1074).toNat = u + L := by omega
      have hp2 : (-(place + 1074)).toNat = 0 := by omega
      refine ⟨_, rfl, fun k hk => ?_, fun k hk => ?_⟩
      · unfold lev at hk
        rw [hp1, hp2, Nat.pow_add, ← Nat.mul_assoc, ← hN, Nat.pow_zero, Nat.mul_one] at hk
        exact N_le_iff.1 hk
      · unfold gev at hk
        rw [hp1, hp2, Nat.pow_add, ← Nat.mul_assoc, ← hN, Nat.pow_zero, Nat.mul_one] at hk
        exact N_le_iff.1 hk
    · -- digits are dropped
      have e3 : (place - last).toNat = 0 := by omega
      rw [e3, Nat.shiftLeft_zero]
      obtain ⟨D, hD⟩ : ∃ D : Nat, last = place + D := ⟨(last - place).toNat, by omega⟩
      have e2 : (last - place).toNat = D := by omega
      rw [e2]
      have hD0 : 0 < D := by omega
      have lo := rne_lo mag D
      have hi := rne_hi mag D
      have hDp := Nat.two_pow_pos D
      have hLp := Nat.two_pow_pos L
      -- the kept digits
      have hv : rne mag D ≤ 9007199254740992 := by
        have h1 : 2 ^ (g + 1) ≤ 2 ^ (53 + D) := Nat.pow_le_pow_right (by omega) (by omega)
        rw [Nat.pow_add 2 53 D] at h1
        have h2 : rne mag D * 2 ^ D < (2 ^ 53 + 1) * 2 ^ D := by rw [Nat.add_mul]; omega
        have := Nat.lt_of_mul_lt_mul_right h2
        omega
      have hbig : L = 0 ∨ 4503599627370496 * 2 ^ D ≤ mag := by
        by_cases hL0 : L = 0
        · exact .inl hL0
        · right
          have h2 : 2 ^ (52 + D) ≤ 2 ^ g := Nat.pow_le_pow_right (by omega) (by omega)
          rw [Nat.pow_add] at h2
          omega
      have hw : L = 0 ∨ 4503599627370496 ≤ rne mag D := by
        rcases hbig with h | h
        · exact .inl h
        · right
          have h3 : 4503599627370496 * 2 ^ D < (rne mag D + 1) * 2 ^ D := by omega
          have := Nat.lt_of_mul_lt_mul_right h3
          omega
      have hN := N_join L (rne mag D) hv hw
      -- the value, on one scale: mag * 2 ^ L against N k * 2 ^ D
      have scale : ∀ k, (lev k mag (place + 1074) → N k * 2 ^ D ≤ mag * 2 ^ L) ∧ (gev k mag (place + 1074) → mag * 2 ^ L ≤ N k * 2 ^ D) := by
        intro k
        have hpl : place + 1074 = (L : Int) - D := by omega
        unfold lev gev
        rw [hpl]
        by_cases hc : D ≤ L
        · have a1 : ((L : Int) - D).toNat = L - D := by omega
          have a2 : (-((L : Int) - D)).toNat = 0 := by omega
          rw [a1, a2, Nat.pow_zero, Nat.mul_one]
          have a3 : mag * 2 ^ L = mag * 2 ^ (L - D) * 2 ^ D := by rw [Nat.mul_assoc, ← Nat.pow_add, show L - D + D = L by omega]
          rw [a3]
          exact ⟨fun h => Nat.mul_le_mul_right _ h, fun h => Nat.mul_le_mul_right _ h⟩
        · have a1 : ((L : Int) - D).toNat = 0 := by omega
          have a2 : (-((L : Int) - D)).toNat = D - L := by omega
          rw [a1, a2, Nat.pow_zero, Nat.mul_one]
          have a3 : N k * 2 ^ D = N k * 2 ^ (D - L) * 2 ^ L := by rw [Nat.mul_assoc, ← Nat.pow_add, show D - L + L = D by omega]
          rw [a3]
          exact ⟨fun h => Nat.mul_le_mul_right _ h, fun h => Nat.mul_le_mul_right _ h⟩
      refine ⟨_, rfl, fun k hk => ?_, fun k hk => ?_⟩
      · have hk := (scale k).1 hk
        false_or_by_contra
        rename_i hgt
        have h1 : (rne mag D + 1) * 2 ^ L ≤ N k := by
          by_cases hm : rne mag D = 9007199254740992
          · have h3 := N_le (show (L + 1) * 4503599627370496 + (4503599627370496 + 1) ≤ k by omega)
            rw [N_join (L + 1) _ (by omega) (by omega), Nat.pow_succ] at h3
            rw [hm]
            have : (9007199254740992 + 1) * 2 ^ L ≤ (4503599627370496 + 1) * (2 ^ L * 2) := by
              rw [← Nat.mul_assoc, Nat.mul_right_comm]
              exact Nat.mul_le_mul_right _ (by omega)
            omega
          · have h3 := N_le (show L * 4503599627370496 + (rne mag D + 1) ≤ k by omega)
            rw [N_join L _ (by omega) (by omega)] at h3
            exact h3
        have h2 : (rne mag D + 1) * 2 ^ L * 2 ^ D ≤ N k * 2 ^ D := Nat.mul_le_mul_right _ h1
        have h3 : mag * 2 ^ L < (rne mag D + 1) * 2 ^ D * 2 ^ L := Nat.mul_lt_mul_of_pos_right lo hLp
        rw [Nat.mul_right_comm] at h3
        omega
      · have hk := (scale k).2 hk
        false_or_by_contra
        rename_i hgt
        -- N k is below the value
        have h1 : N k * 2 ^ D < mag * 2 ^ L := by
          by_cases hm : L = 0 ∨ 4503599627370496 < rne mag D
          · have hpos : 0 < rne mag D := by omega
            have h3 := N_le (show k ≤ L * 4503599627370496 + (rne mag D - 1) by omega)
            rw [N_join L _ (by omega) (by omega)] at h3
            have h4 : (rne mag D - 1) * 2 ^ D < mag := by rw [Nat.sub_mul]; omega
            have h5 : (rne mag D - 1) * 2 ^ D * 2 ^ L < mag * 2 ^ L := Nat.mul_lt_mul_of_pos_right h4 hLp
            rw [Nat.mul_right_comm] at h5
            have h6 : N k * 2 ^ D ≤ (rne mag D - 1) * 2 ^ L * 2 ^ D := Nat.mul_le_mul_right _ h3
            omega
          · have hL1 : 0 < L := by omega
            have hK : rne mag D = 4503599627370496 := by omega
            have hb : 4503599627370496 * 2 ^ D ≤ mag := by omega
            have h3 := N_le (show k ≤ (L - 1) * 4503599627370496 + 9007199254740991 by omega)
            rw [N_join (L - 1) _ (by omega) (by omega)] at h3
            have h6 : N k * 2 ^ D ≤ 9007199254740991 * 2 ^ (L - 1) * 2 ^ D := Nat.mul_le_mul_right _ h3
            have h7 : 4503599627370496 * 2 ^ D * 2 ^ L ≤ mag * 2 ^ L := Nat.mul_le_mul_right _ hb
            have h8 : 2 ^ L = 2 ^ (L - 1) * 2 := by rw [← Nat.pow_succ, show (L - 1).succ = L by omega]
            have h9 : 4503599627370496 * 2 ^ D * 2 ^ L = 9007199254740992 * 2 ^ (L - 1) * 2 ^ D := by
              rw [h8, Nat.mul_right_comm 9007199254740992, ← Nat.mul_assoc, Nat.mul_right_comm (4503599627370496 * 2 ^ D)]
              rw [Nat.mul_right_comm 4503599627370496 (2 ^ D) 2]
            have h10 : 9007199254740991 * 2 ^ (L - 1) * 2 ^ D < 9007199254740992 * 2 ^ (L - 1) * 2 ^ D :=
              Nat.mul_lt_mul_of_pos_right (Nat.mul_lt_mul_of_pos_right (by omega) (Nat.two_pow_pos _)) hDp
            omega
        omega

/-! ### A value alone decides -/

theorem log2_shift {m : Nat} (h : m ≠ 0) (u : Nat) : (m * 2 ^ u).log2 = m.log2 + u := by
  have hp := Nat.two_pow_pos u
  have h1 := Nat.log2_self_le h
  have h2 : m < 2 ^ (m.log2 + 1) := Nat.lt_log2_self
  have hne : m * 2 ^ u ≠ 0 := Nat.mul_ne_zero h (by omega)
  rw [Nat.log2_eq_iff hne]
  constructor
  · rw [Nat.pow_add]; exact Nat.mul_le_mul_right _ h1
  · rw [show m.log2 + u + 1 = m.log2 + 1 + u by omega, Nat.pow_add]; exact Nat.mul_lt_mul_of_pos_right h2 hp

theorem rne_shift (m d u : Nat) : rne (m * 2 ^ u) (d + u) = rne m d := by
  have hp := Nat.two_pow_pos u
  unfold rne
  have e1 : m * 2 ^ u / 2 ^ (d + u) = m / 2 ^ d := by rw [Nat.pow_add]; exact Nat.mul_div_mul_right _ _ hp
  have e2 : m * 2 ^ u % 2 ^ (d + u) = m % 2 ^ d * 2 ^ u := by rw [Nat.pow_add]; exact Nat.mul_mod_mul_right ..
  rw [e1, e2, Nat.pow_add, ← Nat.mul_assoc]
  have a1 : 2 ^ d * 2 ^ u < 2 * (m % 2 ^ d) * 2 ^ u ↔ 2 ^ d < 2 * (m % 2 ^ d) := Nat.mul_lt_mul_right hp
  have a2 : 2 ^ d * 2 ^ u = 2 * (m % 2 ^ d) * 2 ^ u ↔ 2 ^ d = 2 * (m % 2 ^ d) := ⟨fun h => Nat.eq_of_mul_eq_mul_right hp h, fun h => congrArg (· * 2 ^ u) h⟩
  simp only [a1, a2]
theorem rne_exact (m d u : Nat) (h : d ≤ u) : rne (m * 2 ^ u) d = m * 2 ^ (u - d) := by
  have := rne_shift (m * 2 ^ (u - d)) 0 d
  rw [Nat.mul_assoc, ← Nat.pow_add, show u - d + d = u by omega, Nat.zero_add, rne_zero] at this
  exact this

theorem nearest_shift (neg : Bool) (m u : Nat) (p : Int) : double.nearest neg (m * 2 ^ u) p = double.nearest neg m (p + u) := by
  by_cases h0 : m = 0
  · subst h0; simp [Format.nearest]
  · have hp := Nat.two_pow_pos u
    have hne : m * 2 ^ u ≠ 0 := Nat.mul_ne_zero h0 (by omega)
    unfold Format.nearest
    rw [if_neg h0, if_neg hne, log2_shift h0]
    simp only [cut_even]
    rw [show p + ((m.log2 + u : Nat) : Int) - (double.fractionBits : Int) = p + u + m.log2 - double.fractionBits by omega]
    generalize max (p + (u : Int) + m.log2 - double.fractionBits) double.leastPlace = last
    simp only [Nat.shiftLeft_eq]
    have key : rne (m * 2 ^ u * 2 ^ (p - last).toNat) (last - p).toNat = rne (m * 2 ^ (p + u - last).toNat) (last - (p + u)).toNat := by
      by_cases c1 : last ≤ p
      · rw [show (last - p).toNat = 0 by omega, show (last - (p + u)).toNat = 0 by omega, rne_zero, rne_zero, Nat.mul_assoc, ← Nat.pow_add, show u + (p - last).toNat = (p + u - last).toNat by omega]
      · rw [show (p - last).toNat = 0 by omega, Nat.pow_zero, Nat.mul_one]
        by_cases c2 : last ≤ p + u
        · rw [show (last - (p + u)).toNat = 0 by omega, rne_zero, rne_exact _ _ _ (by omega), show u - (last - p).toNat = (p + u - last).toNat by omega]
        · rw [show (p + u - last).toNat = 0 by omega, Nat.pow_zero, Nat.mul_one, show (last - p).toNat = (last - (p + u)).toNat + u by omega, rne_shift]
    rw [key]

/-- A magnitude of 'M' units, rounded. -/
def rw1 (neg : Bool) (M : Nat) : Nat := double.nearest neg M (-1074)
theorem nearest_units (neg : Bool) (m k : Nat) : double.nearest neg m (-1074 + k) = rw1 neg (m * 2 ^ k) := by unfold rw1; rw [nearest_shift]
theorem rw1_exact (neg : Bool) (k : Nat) : rw1 neg (N k) = wd neg (min k 9218868437227405312) := by
  obtain ⟨r, e, h1, h2⟩ := nearest_spec neg (N k) (-1074)
  unfold rw1; rw [e]
  have a : lev k (N k) (-1074 + 1074) := by unfold lev; simp
  have b : gev k (N k) (-1074 + 1074) := by unfold gev; simp
  have := h1 k a; have := h2 k b
  rw [show r = k by omega]
theorem rw1_le {neg : Bool} {M k : Nat} (h : M ≤ N k) : ∃ r, r ≤ k ∧ rw1 neg M = wd neg (min r 9218868437227405312) := by
  obtain ⟨r, e, h1, h2⟩ := nearest_spec neg M (-1074)
  exact ⟨r, h2 k (by unfold gev; simpa using h), e⟩
theorem rw1_ge {neg : Bool} {M k : Nat} (h : N k ≤ M) : ∃ r, k ≤ r ∧ rw1 neg M = wd neg (min r 9218868437227405312) := by
  obtain ⟨r, e, h1, h2⟩ := nearest_spec neg M (-1074)
  exact ⟨r, h1 k (by unfold lev; simpa using h), e⟩
theorem nearest_form (neg : Bool) (m : Nat) (p : Int) : ∃ r, r ≤ 9218868437227405312 ∧ double.nearest neg m p = wd neg r := by
  obtain ⟨r, e, _⟩ := nearest_spec neg m p
  exact ⟨_, Nat.min_le_right _ _, e⟩

/-- The word is finite. -/
def fin (x : Nat) : Prop := rg x < 9218868437227405312
instance (x : Nat) : Decidable (fin x) := inferInstanceAs (Decidable (_ < _))
/-- The signed value of a finite word, in units. -/
def sv (x : Nat) : Int := sn (sg x) (N (rg x))

theorem sum_num (s t : Bool) (m n i j : Nat) : Datum.sum (.number s m (-1074 + i)) (.number t n (-1074 + j)) =
    some (.number (if sn s (m * 2 ^ i) + sn t (n * 2 ^ j) = 0 then s && t else decide (sn s (m * 2 ^ i) + sn t (n * 2 ^ j) < 0))
      (sn s (m * 2 ^ (i - min i j)) + sn t (n * 2 ^ (j - min i j))).natAbs (-1074 + (min i j : Nat))) := by
  unfold Datum.sum
  simp only [signed_eq]
  have hb : min (-1074 + (i : Int)) (-1074 + j) = -1074 + (min i j : Nat) := by omega
  rw [hb]
  have e1 : (-1074 + (i : Int) - (-1074 + (min i j : Nat))).toNat = i - min i j := by omega
  have e2 : (-1074 + (j : Int) - (-1074 + (min i j : Nat))).toNat = j - min i j := by omega
  rw [e1, e2]
  have hp : (0 : Int) < ((2 ^ min i j : Nat) : Int) := by have := Nat.two_pow_pos (min i j); omega
  have scale : sn s (m * 2 ^ i) + sn t (n * 2 ^ j) = (sn s (m * 2 ^ (i - min i j)) + sn t (n * 2 ^ (j - min i j))) * ((2 ^ min i j : Nat) : Int) := by
    rw [Int.add_mul, ← sn_mul, ← sn_mul, Nat.mul_assoc, Nat.mul_assoc, ← Nat.pow_add, ← Nat.pow_add, show i - min i j + min i j = i by omega, show j - min i j + min i j = j by omega]
  rw [scale]
  generalize sn s (m * 2 ^ (i - min i j)) + sn t (n * 2 ^ (j - min i j)) = T
  have a1 : T * ((2 ^ min i j : Nat) : Int) = 0 ↔ T = 0 := by
    constructor
    · intro h; rcases Int.mul_eq_zero.1 h with h | h <;> omega
    · intro h; rw [h, Int.zero_mul]
  have a2 : T * ((2 ^ min i j : Nat) : Int) < 0 ↔ T < 0 := by
    constructor
    · intro h; false_or_by_contra; rename_i hn; have := Int.mul_nonneg (show 0 ≤ T by omega) (show (0 : Int) ≤ ((2 ^ min i j : Nat) : Int) by omega); omega
    · intro h; have := Int.mul_lt_mul_of_pos_right h hp; rw [Int.zero_mul] at this; exact this
  simp only [a1, a2]

theorem natAbs_scale (T : Int) (c : Nat) : T.natAbs * c = (T * (c : Int)).natAbs := by rw [Int.natAbs_mul]; rfl

theorem add_spec {x y : Nat} (hx : fin x) (hy : fin y) : double.add x y =
    some (rw1 (if sv x + sv y = 0 then sg x && sg y else decide (sv x + sv y < 0)) (sv x + sv y).natAbs) := by
  unfold Format.add
  rw [read_eq, read_eq]
  obtain ⟨m, i, e, em, _⟩ := dec_num (s := sg x) hx
  obtain ⟨n, j, e2, en, _⟩ := dec_num (s := sg y) hy
  rw [e, e2, sum_num]
  simp only [Option.map_some, Format.write]
  rw [nearest_units, natAbs_scale, Int.add_mul, ← sn_mul, ← sn_mul, Nat.mul_assoc, Nat.mul_assoc, ← Nat.pow_add, ← Nat.pow_add, show i - min i j + min i j = i by omega, show j - min i j + min i j = j by omega, em, en]
  rfl

theorem sub_spec {x y : Nat} (hx : fin x) (hy : fin y) : double.sub x y =
    some (rw1 (if sv x - sv y = 0 then sg x && !sg y else decide (sv x - sv y < 0)) (sv x - sv y).natAbs) := by
  unfold Format.sub
  rw [read_eq, read_eq]
  obtain ⟨m, i, e, em, _⟩ := dec_num (s := sg x) hx
  obtain ⟨n, j, e2, en, _⟩ := dec_num (s := sg y) hy
  rw [e, e2]
  simp only [Datum.opposite]
  rw [sum_num]
  simp only [Option.map_some, Format.write]
  rw [nearest_units, natAbs_scale, Int.add_mul, ← sn_mul, ← sn_mul, Nat.mul_assoc, Nat.mul_assoc, ← Nat.pow_add, ← Nat.pow_add, show i - min i j + min i j = i by omega, show j - min i j + min i j = j by omega, em, en]
  have : sn (!sg y) (N (rg y)) = - sn (sg y) (N (rg y)) := by unfold sn; cases sg y <;> simp
  rw [this]
  rfl

theorem mul_spec {x y : Nat} (hx : fin x) (hy : fin y) : double.mul x y = some (double.nearest (sg x ^^ sg y) (N (rg x) * N (rg y)) (-2148)) := by
  unfold Format.mul
  rw [read_eq, read_eq]
  obtain ⟨m, i, e, em, _⟩ := dec_num (s := sg x) hx
  obtain ⟨n, j, e2, en, _⟩ := dec_num (s := sg y) hy
  rw [e, e2]
  simp only [Datum.product, Option.map_some, Format.write]
  rw [← em, ← en, show m * 2 ^ i * (n * 2 ^ j) = m * n * 2 ^ (i + j) by rw [Nat.pow_add]; ac_rfl, nearest_shift]
  congr 2
  omega

theorem mul_comm' (x y : Nat) : double.mul x y = double.mul y x := by
  unfold Format.mul
  congr 1
  generalize double.read x = a
  generalize double.read y = b
  cases a <;> cases b <;> simp only [Datum.product, Bool.xor_comm, Nat.mul_comm, Int.add_comm]

/-- Not a NaN: no number and no infinity is written as one. -/
theorem write_not_nan {d : Datum} (h : d.isNaN = false) : ¬ nan (double.write d) := by
  cases d with
  | number s m p =>
    obtain ⟨r, hr, e⟩ := nearest_form s m p
    simp only [Format.write]; rw [e]; unfold nan; rw [rg_wd (by omega)]; omega
  | infinity s => simp only [Format.write]; rw [word_eq, e_inf]; unfold nan; rw [rg_wd (by omega)]; omega
  | nan s t => simp [Datum.isNaN] at h

/-! ### Whole numbers -/
theorem N_two (L : Nat) : N ((L + 1) * 4503599627370496 + 4503599627370496) = 9007199254740992 * 2 ^ L := by
  rw [N_join _ _ (by omega) (by omega), Nat.pow_succ]; omega
theorem exists_rung {n : Nat} (h : n ≤ 9007199254740992) : ∃ k, N k = n * 2 ^ 1074 ∧ k < 9218868437227405312 ∧ (k = 0 ↔ n = 0) := by
  by_cases h0 : n = 0
  · subst h0; refine ⟨0, ?_, by omega, by simp⟩
    rw [N_zero]; generalize 2 ^ 1074 = c; omega
  · by_cases h1 : n = 9007199254740992
    · refine ⟨(1074 + 1) * 4503599627370496 + 4503599627370496, ?_, by omega, by omega⟩
      rw [h1]; exact N_two 1074
    · have a := Nat.log2_self_le h0
      have b : n < 2 ^ (n.log2 + 1) := Nat.lt_log2_self
      have hg : n.log2 ≤ 52 := by
        false_or_by_contra
        have : 2 ^ 53 ≤ 2 ^ n.log2 := Nat.pow_le_pow_right (by omega) (by omega)
        omega
      generalize n.log2 = g at *
      have c1 : 2 ^ g * 2 ^ (52 - g) = 4503599627370496 := by rw [← Nat.pow_add, show g + (52 - g) = 52 by omega]
      have c2 : 2 ^ (g + 1) * 2 ^ (52 - g) = 9007199254740992 := by rw [← Nat.pow_add, show g + 1 + (52 - g) = 53 by omega]
      have d1 : 4503599627370496 ≤ n * 2 ^ (52 - g) := by rw [← c1]; exact Nat.mul_le_mul_right _ a
      have d2 : n * 2 ^ (52 - g) < 9007199254740992 := by rw [← c2]; exact Nat.mul_lt_mul_of_pos_right b (Nat.two_pow_pos _)
      refine ⟨(1022 + g) * 4503599627370496 + n * 2 ^ (52 - g), ?_, ?_, ?_⟩
      · rw [N_join _ _ (by omega) (by omega), Nat.mul_assoc, ← Nat.pow_add, show 52 - g + (1022 + g) = 1074 by omega]
      · have : (1022 + g) * 4503599627370496 ≤ 1074 * 4503599627370496 := Nat.mul_le_mul_right _ (by omega)
        omega
      · omega

/-- The word of a whole number. -/
def iw (n : Int) : Nat := double.nearest (decide (n < 0)) n.natAbs 0
theorem iw_units (n : Int) : iw n = rw1 (decide (n < 0)) (n.natAbs * 2 ^ 1074) := by
  unfold iw
  have := nearest_units (decide (n < 0)) n.natAbs 1074
  rw [← this]; rfl
theorem iw_exact {n : Int} (h : n.natAbs ≤ 9007199254740992) : ∃ k, iw n = wd (decide (n < 0)) k ∧ N k = n.natAbs * 2 ^ 1074 ∧ k < 9218868437227405312 ∧ (k = 0 ↔ n = 0) := by
  obtain ⟨k, e, hk, h0⟩ := exists_rung h
  refine ⟨k, ?_, e, hk, by omega⟩
  rw [iw_units, ← e, rw1_exact, Nat.min_eq_left (by omega)]
theorem iw_fin {n : Int} (h : n.natAbs ≤ 9007199254740992) : fin (iw n) := by
  obtain ⟨k, e, _, hk, _⟩ := iw_exact h
  unfold fin; rw [e, rg_wd (by omega)]; exact hk
theorem iw_sv {n : Int} (h : n.natAbs ≤ 9007199254740992) : sv (iw n) = n * ((2 ^ 1074 : Nat) : Int) := by
  obtain ⟨k, e, eN, hk, _⟩ := iw_exact h
  unfold sv; rw [e, rg_wd (by omega), sg_wd (by omega), eN, sn_mul]
  congr 1
  unfold sn; by_cases c : n < 0 <;> simp [c] <;> omega
theorem iw_sg {n : Int} (h : n.natAbs ≤ 9007199254740992) : sg (iw n) = decide (n < 0) := by
  obtain ⟨k, e, eN, hk, _⟩ := iw_exact h
  rw [e, sg_wd (by omega)]

theorem scaled (T : Int) (c : Nat) (hc : 0 < c) : (T * (c : Int) = 0 ↔ T = 0) ∧ (T * (c : Int) < 0 ↔ T < 0) := by
  have hp : (0 : Int) < (c : Int) := by omega
  constructor
  · constructor
    · intro h; rcases Int.mul_eq_zero.1 h with h | h <;> omega
    · intro h; rw [h, Int.zero_mul]
  · constructor
    · intro h; false_or_by_contra; rename_i hn; have := Int.mul_nonneg (show 0 ≤ T by omega) (show (0 : Int) ≤ (c : Int) by omega); omega
    · intro h; have := Int.mul_lt_mul_of_pos_right h hp; rw [Int.zero_mul] at this; exact this

theorem iw_add {a b : Int} (ha : a.natAbs ≤ 9007199254740992) (hb : b.natAbs ≤ 9007199254740992) : double.add (iw a) (iw b) = some (iw (a + b)) := by
  rw [add_spec (iw_fin ha) (iw_fin hb), iw_sv ha, iw_sv hb, iw_sg ha, iw_sg hb, ← Int.add_mul, iw_units, ← natAbs_scale]
  obtain ⟨s1, s2⟩ := scaled (a + b) (2 ^ 1074) (Nat.two_pow_pos _)
  congr 2
  simp only [s1, s2]
  by_cases c : a + b = 0
  · simp only [c, if_true]
    by_cases a0 : a < 0 <;> by_cases b0 : b < 0 <;> simp [a0, b0] <;> omega
  · simp [c]
theorem iw_sub {a b : Int} (ha : a.natAbs ≤ 9007199254740992) (hb : b.natAbs ≤ 9007199254740992) : double.sub (iw a) (iw b) = some (iw (a - b)) := by
  rw [sub_spec (iw_fin ha) (iw_fin hb), iw_sv ha, iw_sv hb, iw_sg ha, iw_sg hb, ← Int.sub_mul, iw_units, ← natAbs_scale]
  obtain ⟨s1, s2⟩ := scaled (a - b) (2 ^ 1074) (Nat.two_pow_pos _)
  congr 2
  simp only [s1, s2]
  by_cases c : a - b = 0
  · simp only [c, if_true]
    by_cases a0 : a < 0 <;> by_cases b0 : b < 0 <;> simp [a0, b0] <;> omega
  · simp [c]

/-- One over a zero. -/
theorem one_over_zero {x : Nat} (h : rg x = 0) : double.div 4607182418800017408 x = some (wd (sg x) 9218868437227405312) := by
  unfold Format.div
  rw [read_eq x, h]
  have e1 : double.read 4607182418800017408 = .number false 4503599627370496 (-52) := by decide
  rw [e1, show dec (sg x) 0 = .number (sg x) 0 (-1074) by rfl]
  simp only [Datum.quotient, if_true]
  rw [if_neg (by omega)]
  simp only [Option.map_some, Format.write]
  rw [word_eq, e_inf]; simp

/-- A quotient that is a whole number below 2 ^ 53. -/
theorem div_exact {x y Q : Nat} (hx : fin x) (hy : fin y) (h0 : rg y ≠ 0) (hQ : Q < 9007199254740992) (h : N (rg x) = Q * N (rg y)) :
    double.div x y = some (double.nearest (sg x ^^ sg y) Q 0) := by
  unfold Format.div
  rw [read_eq, read_eq]
  obtain ⟨m, i, e, em, _⟩ := dec_num (s := sg x) hx
  obtain ⟨n, j, e2, en, n0⟩ := dec_num (s := sg y) hy
  have hn : n ≠ 0 := fun c => h0 (n0.1 c)
  rw [e, e2]
  simp only [Datum.quotient]
  rw [if_neg hn]
  simp only [Option.map_some, Format.write]
  rw [← em, ← en] at h
  by_cases hQ0 : Q = 0
  · subst hQ0
    have hm : m = 0 := by
      rw [Nat.zero_mul] at h
      rcases Nat.mul_eq_zero.1 h with h | h
      · exact h
      · have := Nat.two_pow_pos i; omega
    subst hm
    simp [Format.nearest, Nat.shiftLeft_eq]
  · have hm : m ≠ 0 := by
      intro c; subst c
      rw [Nat.zero_mul] at h
      have := Nat.mul_ne_zero hQ0 (Nat.mul_ne_zero hn (Nat.ne_of_gt (Nat.two_pow_pos j)))
      omega
    have hQn : Q * n ≠ 0 := Nat.mul_ne_zero hQ0 hn
    have hl : m.log2 + i = (Q * n).log2 + j := by rw [← log2_shift hm, ← log2_shift hQn, h, Nat.mul_assoc]
    have hb : (Q * n).log2 ≤ 53 + n.log2 := by
      have a1 : Q < 2 ^ 53 := by omega
      have a2 : n < 2 ^ (n.log2 + 1) := Nat.lt_log2_self
      have a3 : Q * n < 2 ^ 53 * 2 ^ (n.log2 + 1) := Nat.mul_lt_mul'' a1 a2
      rw [← Nat.pow_add] at a3
      have := (Nat.log2_lt hQn).2 a3
      omega
    rw [e_fb]
    obtain ⟨more, hmore⟩ : ∃ more : Nat, more = 52 + 2 + n.log2 - m.log2 := ⟨_, rfl⟩
    rw [← hmore]
    have hij : i ≤ j + more := by omega
    have hd : m <<< more = Q * 2 ^ (j + more - i) * n := by
      rw [Nat.shiftLeft_eq]
      have hp := Nat.two_pow_pos i
      apply Nat.eq_of_mul_eq_mul_right hp
      have g1 : m * 2 ^ more * 2 ^ i = (m * 2 ^ i) * 2 ^ more := by ac_rfl
      have g2 : Q * 2 ^ (j + more - i) * n * 2 ^ i = Q * n * 2 ^ (j + more) := by
        rw [show j + more = j + more - i + i by omega, Nat.pow_add _ (j + more - i) i, show j + more - i + i - i = j + more - i by omega]; ac_rfl
      rw [g1, g2, h, Nat.pow_add]; ac_rfl
    have hd1 : m <<< more / n = Q * 2 ^ (j + more - i) := by rw [hd]; exact Nat.mul_div_cancel _ (by omega)
    have hd2 : m <<< more % n = 0 := by rw [hd]; exact Nat.mul_mod_left _ _
    rw [hd1, hd2]
    have e3 : 2 * (Q * 2 ^ (j + more - i)) + (0 != 0 : Bool).toNat = Q * 2 ^ (j + more - i + 1) := by
      simp only [bne_self_eq_false, Bool.toNat_false]; rw [Nat.pow_succ, Nat.add_zero, Nat.mul_comm 2, Nat.mul_assoc]
    rw [e3, nearest_shift]
    congr 2
    omega

theorem iw_div {q d : Int} (hq : q.natAbs ≤ 67108864) (hd : d.natAbs ≤ 67108864) (h0 : d ≠ 0) :
    ∃ r, double.div (iw (q * d)) (iw d) = some r ∧ ¬ nan r ∧ ky r = ky (iw q) := by
  have hqd : (q * d).natAbs ≤ 9007199254740992 := by
    rw [Int.natAbs_mul]
    have := Nat.mul_le_mul hq hd
    omega
  obtain ⟨k1, e1, n1, f1, z1⟩ := iw_exact hqd
  obtain ⟨k2, e2, n2, f2, z2⟩ := iw_exact (n := d) (by omega)
  obtain ⟨k3, e3, n3, f3, z3⟩ := iw_exact (n := q) (by omega)
  have hdiv := div_exact (x := iw (q * d)) (y := iw d) (Q := q.natAbs) (iw_fin hqd) (iw_fin (by omega)) (by rw [e2, rg_wd (by omega)]; omega) (by omega)
    (by rw [e1, e2, rg_wd (by omega), rg_wd (by omega), n1, n2, Int.natAbs_mul, Nat.mul_assoc])
  refine ⟨_, hdiv, ?_, ?_⟩
  · obtain ⟨r, hr, e⟩ := nearest_form (sg (iw (q * d)) ^^ sg (iw d)) q.natAbs 0
    rw [e]; unfold nan; rw [rg_wd (by omega)]; omega
  · have e4 : ∀ s, double.nearest s q.natAbs 0 = wd s k3 := by
      intro s
      have := nearest_units s q.natAbs 1074
      rw [show (-1074 : Int) + (1074 : Nat) = 0 by omega] at this
      rw [this, ← n3, rw1_exact, Nat.min_eq_left (by omega)]
    rw [e4, e3, e1, e2, sg_wd (by omega), sg_wd (by omega)]
    unfold ky
    rw [rg_wd (by omega), rg_wd (by omega), sg_wd (by omega), sg_wd (by omega)]
    by_cases hz : q = 0
    · rw [z3.2 hz]; unfold key sn; split <;> split <;> rfl
    · congr 1
      have s1 : q * d < 0 ↔ (q < 0 ∧ 0 < d) ∨ (0 < q ∧ d < 0) := by
        rcases Int.lt_trichotomy q 0 with a | a | a
        · rcases Int.lt_trichotomy d 0 with b | b | b
          · have := Int.mul_pos_of_neg_of_neg a b; omega
          · omega
          · have := Int.mul_neg_of_neg_of_pos a b; omega
        · omega
        · rcases Int.lt_trichotomy d 0 with b | b | b
          · have := Int.mul_neg_of_pos_of_neg a b; omega
          · omega
          · have := Int.mul_pos a b; omega
      simp only [s1]
      by_cases a : q < 0 <;> by_cases b : d < 0 <;> simp [a, b] <;> omega

/-! ### The square root -/
theorem rootFrom_spec (n : Nat) : ∀ (todo r : Nat), r * r ≤ n → n < (r + 2 ^ todo) * (r + 2 ^ todo) →
    Datum.rootFrom n todo r * Datum.rootFrom n todo r ≤ n ∧ n < (Datum.rootFrom n todo r + 1) * (Datum.rootFrom n todo r + 1)
  | 0, r, h1, h2 => by simpa [Datum.rootFrom] using ⟨h1, h2⟩
  | todo + 1, r, h1, h2 => by
    simp only [Datum.rootFrom, Nat.shiftLeft_eq, Nat.one_mul]
    by_cases hc : (r + 2 ^ todo) * (r + 2 ^ todo) ≤ n
    · rw [if_pos hc]
      refine rootFrom_spec n todo _ hc ?_
      rw [show r + 2 ^ todo + 2 ^ todo = r + 2 ^ (todo + 1) by rw [Nat.pow_succ]; omega]
      exact h2
    · rw [if_neg hc]
      exact rootFrom_spec n todo r h1 (by omega)

theorem root_whole (n : Nat) : ∃ s, Datum.rootFrom n (n.log2 / 2 + 1) 0 = s ∧ s * s ≤ n ∧ n < (s + 1) * (s + 1) := by
  refine ⟨_, rfl, rootFrom_spec n _ 0 (by omega) ?_⟩
  rw [Nat.zero_add, ← Nat.pow_add]
  have h : n < 2 ^ (n.log2 + 1) := Nat.lt_log2_self
  have : 2 ^ (n.log2 + 1) ≤ 2 ^ (n.log2 / 2 + 1 + (n.log2 / 2 + 1)) := Nat.pow_le_pow_right (by omega) (by omega)
  omega

/-- What a root stands for: whole squares, a sticky digit, and the scale. 'e' may be negative. -/
theorem root_form {m i : Nat} (hm : m ≠ 0) (hm2 : m < 9007199254740992) : ∃ (s n more d : Nat) (e : Int), Datum.root 54 (.number false m (-1074 + i)) = some (.number false (2 * s + d) (e - 1)) ∧
    n = m * 2 ^ more ∧ s * s ≤ n ∧ n < (s + 1) * (s + 1) ∧ (d = 0 ∧ s * s = n ∨ d = 1 ∧ s * s ≠ n) ∧ -1074 + (i : Int) - more = 2 * e ∧ 108 ≤ n.log2 ∧ n.log2 ≤ 109 ∧ 56 ≤ more := by
  have hg : m.log2 ≤ 52 := by
    have := (Nat.log2_lt hm).2 (show m < 2 ^ 53 by omega); omega
  simp only [Datum.root]
  rw [if_neg hm]
  simp only [Bool.false_eq_true, if_false]
  obtain ⟨m0, hm0⟩ : ∃ m0 : Nat, m0 = 2 * 54 - m.log2 := ⟨_, rfl⟩
  rw [← hm0]
  obtain ⟨t, ht⟩ : ∃ t : Nat, t = ((-1074 + (i : Int) - (m0 : Nat)) % 2).toNat := ⟨_, rfl⟩
  rw [← ht]
  have ht2 : t ≤ 1 := by omega
  obtain ⟨s, hs, s1, s2⟩ := root_whole (m <<< (m0 + t))
  rw [hs]
  have hn : m <<< (m0 + t) = m * 2 ^ (m0 + t) := Nat.shiftLeft_eq _ _
  have hlog : (m * 2 ^ (m0 + t)).log2 = m.log2 + (m0 + t) := log2_shift hm _
  rw [hn] at s1 s2 hs ⊢
  refine ⟨s, _, m0 + t, (s * s != m * 2 ^ (m0 + t)).toNat, (-1074 + (i : Int) - ((m0 + t : Nat) : Int)) / 2, rfl, rfl, s1, s2, ?_, ?_, ?_, ?_, ?_⟩
  · by_cases c : s * s = m * 2 ^ (m0 + t)
    · left; simp [c]
    · right; simp [c]
  · omega
  · omega
  · omega
  · omega

theorem close54 (f n c d : Nat) (hf : f = 54) (hc : n = 2 ^ 56 * c) (h1 : 2 ^ f * 2 ^ f ≤ n) (h2 : 2 ^ f * 2 ^ f ≠ n) (h3 : d * 2 ^ (f - 1) ≤ 2 ^ (f - 1)) :
    2 ^ f * 2 ^ f + d * 2 ^ (f - 1) ≤ n := by
  subst hf
  have e : (2 : Nat) ^ 54 * 2 ^ 54 = 2 ^ 56 * 4503599627370496 := by decide
  have e2 : (2 : Nat) ^ (54 - 1) ≤ 2 ^ 56 := by decide
  rw [e] at *
  subst hc
  have h4 : 4503599627370496 ≤ c := Nat.le_of_mul_le_mul_left h1 (by decide)
  have h5 : 4503599627370496 ≠ c := fun h => h2 (by rw [h])
  have h6 : 2 ^ 56 * (4503599627370496 + 1) ≤ 2 ^ 56 * c := Nat.mul_le_mul_left _ (by omega)
  rw [Nat.mul_add, Nat.mul_one] at h6
  exact Nat.le_trans (Nat.add_le_add_left (Nat.le_trans h3 e2) _) h6
/-- Bounds of a root: below its operand from one on, above it up to one. -/
theorem root_bounds {s n more d f m : Nat} (hn : n = m * 2 ^ more) (h1 : s * s ≤ n) (h2 : n < (s + 1) * (s + 1)) (hd : d = 0 ∧ s * s = n ∨ d = 1 ∧ s * s ≠ n)
    (hl : 108 ≤ n.log2) (hl2 : n.log2 ≤ 109) (hmore : 56 ≤ more) (hf : 1 ≤ f) :
    (2 ^ (2 * f) ≤ n → (2 * s + d) * 2 ^ (f - 1) ≤ n ∧ 2 ^ (f + 1) ≤ 2 * s + d) ∧ (n ≤ 2 ^ (2 * f) → n ≤ (2 * s + d) * 2 ^ (f - 1) ∧ 2 * s + d ≤ 2 ^ (f + 1)) := by
  have hn0 : n ≠ 0 := by intro c; subst c; simp at hl
  have hlo := Nat.log2_self_le hn0
  have hhi : n < 2 ^ (n.log2 + 1) := Nat.lt_log2_self
  have p1 : 2 ^ (f + 1) = 2 * 2 ^ f := by rw [Nat.pow_succ]; omega
  have p2 : 2 ^ (2 * f) = 2 ^ f * 2 ^ f := by rw [← Nat.pow_add, show 2 * f = f + f by omega]
  have p3 : 2 ^ f = 2 * 2 ^ (f - 1) := by rw [Nat.mul_comm, ← Nat.pow_succ, show (f - 1).succ = f by omega]
  have hex : (2 * s + d) * 2 ^ (f - 1) = s * 2 ^ f + d * 2 ^ (f - 1) := by rw [Nat.add_mul, p3]; ac_rfl
  rw [hex, p1, p2]
  have hq := Nat.two_pow_pos (f - 1)
  have hdle : d ≤ 1 := by omega
  have hdm : d * 2 ^ (f - 1) ≤ 2 ^ (f - 1) := by
    have := Nat.mul_le_mul_right (2 ^ (f - 1)) hdle; omega
  -- n and 2 ^ (2 f) are multiples of 2 ^ more when they are close
  constructor
  · intro hge
    have hsf : 2 ^ f ≤ s := by
      false_or_by_contra
      rename_i hc
      have : (s + 1) * (s + 1) ≤ 2 ^ f * 2 ^ f := Nat.mul_le_mul (by omega) (by omega)
      omega
    refine ⟨?_, by omega⟩
    by_cases hs1 : 2 ^ f + 1 ≤ s
    · have : s * (2 ^ f + 1) ≤ s * s := Nat.mul_le_mul_left _ hs1
      rw [Nat.mul_add, Nat.mul_one] at this
      omega
    · have hse : s = 2 ^ f := by omega
      rcases hd with ⟨hd, hsq⟩ | ⟨hd, hsq⟩
      · subst hd; rw [Nat.zero_mul, Nat.add_zero, ← hsq, hse]; exact Nat.le_refl _
      · -- a multiple of 2 ^ more above a multiple of it
        rw [hse] at h1 h2 hsq ⊢
        have hf54 : f = 54 := by
          rcases Nat.lt_trichotomy f 54 with c | c | c
          · have : 2 ^ (2 * f + 2) ≤ 2 ^ 108 := Nat.pow_le_pow_right (by omega) (by omega)
            have e4 : (2 ^ f + 1) * (2 ^ f + 1) ≤ (2 * 2 ^ f) * (2 * 2 ^ f) := Nat.mul_le_mul (by omega) (by omega)
            have e5 : 2 ^ (2 * f + 2) = (2 * 2 ^ f) * (2 * 2 ^ f) := by rw [Nat.pow_add, p2, show (2:Nat) ^ 2 = 2 * 2 from rfl]; ac_rfl
            have : 2 ^ 108 ≤ 2 ^ n.log2 := Nat.pow_le_pow_right (by omega) hl
            omega
          · exact c
          · have : 2 ^ 110 ≤ 2 ^ (2 * f) := Nat.pow_le_pow_right (by omega) (by omega)
            have : 2 ^ (n.log2 + 1) ≤ 2 ^ 110 := Nat.pow_le_pow_right (by omega) (by omega)
            omega
        have hmul : 2 ^ 56 ∣ n := by rw [hn]; exact Nat.dvd_trans (Nat.pow_dvd_pow 2 hmore) (Nat.dvd_mul_left _ _)
        obtain ⟨c, hc⟩ := hmul
        exact close54 f n c d hf54 hc h1 hsq hdm
  · intro hle
    have hsf : s ≤ 2 ^ f := by
      false_or_by_contra
      rename_i hc
      have : (2 ^ f + 1) * (2 ^ f + 1) ≤ s * s := Nat.mul_le_mul (by omega) (by omega)
      have : (2 ^ f + 1) * (2 ^ f + 1) = 2 ^ f * 2 ^ f + 2 * 2 ^ f + 1 := by rw [Nat.add_mul, Nat.mul_add]; omega
      omega
    have hexp : (s + 1) * (s + 1) = s * s + 2 * s + 1 := by rw [Nat.add_mul, Nat.mul_add]; omega
    by_cases hs1 : s = 2 ^ f
    · have : d = 0 := by
        rcases hd with ⟨hd, _⟩ | ⟨_, hsq⟩
        · exact hd
        · rw [hs1] at hsq h1; omega
      subst this
      refine ⟨?_, by omega⟩
      rw [hs1]; omega
    · refine ⟨?_, by omega⟩
      rcases hd with ⟨hd, hsq⟩ | ⟨hd, hsq⟩
      · subst hd
        have : s * s ≤ s * 2 ^ f := Nat.mul_le_mul_left _ hsf
        omega
      · subst hd
        by_cases hs2 : s + 2 ≤ 2 ^ f
        · have : s * (s + 2) ≤ s * 2 ^ f := Nat.mul_le_mul_left _ hs2
          rw [Nat.mul_add] at this
          omega
        · have hse : s + 1 = 2 ^ f := by omega
          have hf54 : f = 54 ∨ f = 55 := by
            have a1 : 2 ^ (2 * f - 2) ≤ n := by
              have b1 : 2 ^ (2 * f - 2) = 2 ^ (f - 1) * 2 ^ (f - 1) := by rw [← Nat.pow_add, show 2 * f - 2 = f - 1 + (f - 1) by omega]
              have b2 : 2 ^ (f - 1) * 2 ^ (f - 1) ≤ s * s := Nat.mul_le_mul (by omega) (by omega)
              omega
            have a2 : 2 * f - 2 ≤ n.log2 := by
              false_or_by_contra
              have : 2 ^ (n.log2 + 1) ≤ 2 ^ (2 * f - 2) := Nat.pow_le_pow_right (by omega) (by omega)
              omega
            have a3 : n.log2 ≤ 2 * f := by
              false_or_by_contra
              have : 2 ^ (2 * f + 1) ≤ 2 ^ n.log2 := Nat.pow_le_pow_right (by omega) (by omega)
              rw [Nat.pow_succ] at this
              omega
            omega
          have hmul : 2 ^ 56 ∣ n := by rw [hn]; exact Nat.dvd_trans (Nat.pow_dvd_pow 2 hmore) (Nat.dvd_mul_left _ _)
          obtain ⟨c, hc⟩ := hmul
          have hlt : n < 2 ^ f * 2 ^ f := by rw [← hse]; exact h2
          have hs3 : s * 2 ^ f = 2 ^ f * 2 ^ f - 2 ^ f := by rw [show s = 2 ^ f - 1 by omega, Nat.sub_mul]; omega
          rw [hs3]
          rcases hf54 with rfl | rfl <;> omega

/-! ### Negation, whole parts -/
theorem xor_top {r : Nat} (h : r < 9223372036854775808) : r ^^^ 9223372036854775808 = 9223372036854775808 + r := by
  have h' : r < 2 ^ 63 := h
  have e : 9223372036854775808 + r = 2 ^ 63 ||| r := by
    have := Nat.two_pow_add_eq_or_of_lt h' 1
    simpa using this
  rw [e]
  show r ^^^ 2 ^ 63 = 2 ^ 63 ||| r
  apply Nat.eq_of_testBit_eq
  intro j
  rw [Nat.testBit_xor, Nat.testBit_or, Nat.testBit_two_pow]
  by_cases c : 63 = j
  · subst c; simp [Nat.testBit_lt_two_pow h']
  · simp [c]
theorem neg_wd {s : Bool} {r : Nat} (h : r < 9223372036854775808) : wd s r ^^^ 9223372036854775808 = wd (!s) r := by
  unfold wd
  cases s
  · rw [if_neg (by simp), if_pos (by simp)]; exact xor_top h
  · rw [if_pos rfl, if_neg (by simp), ← xor_top h, Nat.xor_assoc, Nat.xor_self, Nat.xor_zero]
theorem neg_word {x : Nat} (h : x < 18446744073709551616) : x ^^^ 9223372036854775808 = wd (!sg x) (rg x) := by
  have := neg_wd (s := sg x) (rg_lt x)
  rw [wd_sg_rg h] at this
  exact this
theorem sg_neg {x : Nat} (h : x < 18446744073709551616) : sg (x ^^^ 9223372036854775808) = !sg x := by rw [neg_word h, sg_wd (rg_lt x)]
theorem rg_neg {x : Nat} (h : x < 18446744073709551616) : rg (x ^^^ 9223372036854775808) = rg x := by rw [neg_word h, rg_wd (rg_lt x)]
theorem neg_lt {x : Nat} (h : x < 18446744073709551616) : x ^^^ 9223372036854775808 < 18446744073709551616 := by
  rw [neg_word h]; have := rg_lt x; unfold wd; split <;> omega

theorem nearest_neg (s : Bool) (m : Nat) (p : Int) : double.nearest (!s) m p = double.nearest s m p ^^^ 9223372036854775808 := by
  obtain ⟨r, e, _⟩ := nearest_spec s m p
  have e2 : double.nearest (!s) m p = wd (!s) (min r 9218868437227405312) := by
    unfold Format.nearest at e ⊢
    by_cases h0 : m = 0
    · rw [if_pos h0, word_eq] at e ⊢
      have h1 := congrArg rg e
      rw [rg_wd (by omega), rg_wd (by omega)] at h1
      rw [h1]
    · rw [if_neg h0] at e ⊢
      simp only [cut_even, word_eq] at e ⊢
      rw [e_inf] at e ⊢
      have h1 := congrArg rg e
      rw [rg_wd (by omega), rg_wd (by omega)] at h1
      rw [h1]
  rw [e, e2, neg_wd (by omega)]
theorem write_opposite {d : Datum} (h : d.isNaN = false) : double.write d.opposite = double.write d ^^^ 9223372036854775808 := by
  cases d with
  | number s m p => exact nearest_neg s m p
  | infinity s => simp only [Datum.opposite, Format.write]; rw [word_eq, word_eq, e_inf, neg_wd (by omega)]
  | nan s t => simp [Datum.isNaN] at h
theorem dec_opposite (s : Bool) (r : Nat) : dec (!s) r = (dec s r).opposite := by
  unfold dec; split
  · rfl
  · split
    · rfl
    · split <;> rfl
theorem read_neg {x : Nat} (h : x < 18446744073709551616) : double.read (x ^^^ 9223372036854775808) = (double.read x).opposite := by
  rw [read_eq, read_eq, sg_neg h, rg_neg h, dec_opposite]
theorem cut_mirror (s : Bool) (n d : Nat) : Toward.up.cut (!s) n d = Toward.down.cut s n d := by
  unfold Toward.cut; simp
theorem integral_mirror (d : Datum) : d.opposite.integral .up = (d.integral .down).opposite := by
  cases d <;> simp [Datum.opposite, Datum.integral, cut_mirror]
theorem integral_isNaN (d : Datum) (t : Toward) : (d.integral t).isNaN = d.isNaN := by cases d <;> rfl
theorem isNaN_iff (x : Nat) : (double.read x).isNaN = true ↔ nan x := by
  rw [read_eq]; unfold nan
  by_cases h : 9218868437227405312 < rg x
  · rw [dec_nan h]; simp [Datum.isNaN, h]
  · have hd : (dec (sg x) (rg x)).isNaN = false := by
      unfold dec; split
      · rfl
      · split
        · rfl
        · rw [if_pos (by omega)]; rfl
    rw [hd]; simp [h]
/-- Floor, and the mirrored ceiling. -/
theorem floor_mirror {x : Nat} (h : x < 18446744073709551616) (hn : ¬ nan x) :
    double.write ((double.read (x ^^^ 9223372036854775808)).integral .up) ^^^ 9223372036854775808 = double.write ((double.read x).integral .down) := by
  rw [read_neg h, integral_mirror, write_opposite, Nat.xor_assoc, Nat.xor_self, Nat.xor_zero]
  rw [integral_isNaN]
  cases hd : (double.read x).isNaN
  · rfl
  · exact absurd ((isNaN_iff x).1 hd) hn
end Go.Proofs.Ytfacphjjmmfegaa.Fp
