/-
  The words of float64 as rational numbers: what an operation gives, its order, its error. No condition. (My own helper text, one copy a seat.)
-/
import Derived.Test.YtfacphjjmmfegaaFrn
namespace Go.Proofs.Ytfacphjjmmfegaa.Fp
open Ieee

/-- One over the least place. -/
def cc : Rat := (2 : Rat) ^ 1074
theorem cc_pos : 0 < cc := Rat.pow_pos (by decide)
theorem cc_ne : cc ≠ 0 := fun h => absurd cc_pos (by rw [h]; decide)
/-- The value of a finite word. -/
def val (x : Nat) : Rat := (sv x : Rat) / cc
theorem val_cc (x : Nat) : val x * cc = (sv x : Rat) := by unfold val; exact Rat.div_mul_cancel cc_ne
theorem val_le_iff {x y : Nat} : val x ≤ val y ↔ sv x ≤ sv y := by
  constructor
  · intro h
    have := Rat.mul_le_mul_of_nonneg_right h (Rat.le_of_lt cc_pos)
    rw [val_cc, val_cc] at this
    exact Rat.intCast_le_intCast.1 this
  · intro h
    refine Rat.le_of_mul_le_mul_right ?_ cc_pos
    rw [val_cc, val_cc]
    exact Rat.intCast_le_intCast.2 h
theorem val_lt_iff {x y : Nat} : val x < val y ↔ sv x < sv y := by
  have := @val_le_iff y x
  rw [← Rat.not_le, this]; omega
theorem sv_le_iff {x y : Nat} : sv x ≤ sv y ↔ ky x ≤ ky y := by
  have l1 := @N_le_iff (rg x) (rg y); have l2 := @N_le_iff (rg y) (rg x)
  have h0 := N_zero
  have z1 := @N_le_iff (rg x) 0; have z2 := @N_le_iff (rg y) 0
  unfold sv ky key sn
  cases sg x <;> cases sg y <;> simp <;> omega
theorem val_ky {x y : Nat} : val x ≤ val y ↔ ky x ≤ ky y := val_le_iff.trans sv_le_iff
theorem val_ky_lt {x y : Nat} : val x < val y ↔ ky x < ky y := by
  have := @val_ky y x
  rw [← Rat.not_le, this]; omega
theorem val_eq_iff {x y : Nat} : val x = val y ↔ ky x = ky y := by
  rw [Rat.le_antisymm_iff, val_ky, val_ky]; omega
theorem pow_cast (a : Nat) : (((2 ^ a : Nat) : Int) : Rat) = (2 : Rat) ^ a := by
  induction a with
  | zero => rfl
  | succ a ih => rw [Nat.pow_succ, Rat.pow_succ, ← ih]; push_cast; rfl

/-- 'q' is the number 'm * 2 ^ p', signed. -/
def Ex (s : Bool) (m : Nat) (p : Int) (q : Rat) : Prop := q * cc * (((2 ^ (-(p + 1074)).toNat : Nat) : Int) : Rat) = ((sn s m * ((2 ^ (p + 1074).toNat : Nat) : Int) : Int) : Rat)
theorem nat_pos_rat {n : Nat} (h : 0 < n) : (0 : Rat) < ((n : Int) : Rat) := Rat.intCast_pos.2 (by omega)
section
variable {s : Bool} {m : Nat} {p : Int} {q : Rat}
theorem Ex.ge (h : Ex s m p q) {k : Nat} (hk : fin k) (hl : val k ≤ q) : ky k ≤ ky (double.nearest s m p) := by
  refine nearest_ge hk ?_
  have h1 := Rat.mul_le_mul_of_nonneg_right hl (Rat.le_of_lt cc_pos)
  rw [val_cc] at h1
  have hp := nat_pos_rat (Nat.two_pow_pos (-(p + 1074)).toNat)
  have h2 := Rat.mul_le_mul_of_nonneg_right h1 (Rat.le_of_lt hp)
  unfold Ex at h
  rw [h, ← Rat.intCast_mul] at h2
  have h3 := Rat.intCast_le_intCast.1 h2
  push_cast at h3; exact h3
theorem Ex.le (h : Ex s m p q) {k : Nat} (hk : fin k) (hl : q ≤ val k) : ky (double.nearest s m p) ≤ ky k := by
  refine nearest_le hk ?_
  have h1 := Rat.mul_le_mul_of_nonneg_right hl (Rat.le_of_lt cc_pos)
  rw [val_cc] at h1
  have hp := nat_pos_rat (Nat.two_pow_pos (-(p + 1074)).toNat)
  have h2 := Rat.mul_le_mul_of_nonneg_right h1 (Rat.le_of_lt hp)
  unfold Ex at h
  rw [h, ← Rat.intCast_mul] at h2
  have h3 := Rat.intCast_le_intCast.1 h2
  push_cast at h3; exact h3
end

/-- The nearest word is no further off than any other. -/
theorem nearest_best {s : Bool} {m r : Nat} {p : Int} (e : double.nearest s m p = wd s r) (hr : r < 9218868437227405312)
    (h1 : hiNear r m (p + 1074)) (h2 : loNear r m (p + 1074)) (k : Nat) :
    (sv (wd s r) * ((2 ^ (-(p + 1074)).toNat : Nat) : Int) ≤ sv k * ((2 ^ (-(p + 1074)).toNat : Nat) : Int) ∨
      sv (wd s r) * ((2 ^ (-(p + 1074)).toNat : Nat) : Int) + sv k * ((2 ^ (-(p + 1074)).toNat : Nat) : Int) ≤ 2 * (sn s m * ((2 ^ (p + 1074).toNat : Nat) : Int))) ∧
    (sv k * ((2 ^ (-(p + 1074)).toNat : Nat) : Int) ≤ sv (wd s r) * ((2 ^ (-(p + 1074)).toNat : Nat) : Int) ∨
      2 * (sn s m * ((2 ^ (p + 1074).toNat : Nat) : Int)) ≤ sv (wd s r) * ((2 ^ (-(p + 1074)).toNat : Nat) : Int) + sv k * ((2 ^ (-(p + 1074)).toNat : Nat) : Int)) := by
  have c0 := nearest_close h1 h2 0
  have c := nearest_close h1 h2 (rg k)
  have l1 := @N_le r (rg k); have l2 := @N_le (rg k) r
  unfold sv
  rw [sg_wd (by omega), rg_wd (by omega)]
  have m1 := fun h => Nat.mul_le_mul_right (2 ^ (-(p + 1074)).toNat) (l1 h)
  have m2 := fun h => Nat.mul_le_mul_right (2 ^ (-(p + 1074)).toNat) (l2 h)
  rw [N_zero, Nat.zero_mul] at c0
  have g1 : (N r : Int) * ((2 ^ (-(p + 1074)).toNat : Nat) : Int) = ((N r * 2 ^ (-(p + 1074)).toNat : Nat) : Int) := rfl
  have g2 : (N (rg k) : Int) * ((2 ^ (-(p + 1074)).toNat : Nat) : Int) = ((N (rg k) * 2 ^ (-(p + 1074)).toNat : Nat) : Int) := rfl
  have g3 : (m : Int) * ((2 ^ (p + 1074).toNat : Nat) : Int) = ((m * 2 ^ (p + 1074).toNat : Nat) : Int) := rfl
  generalize m * 2 ^ (p + 1074).toNat = V at *
  generalize hB : N r * 2 ^ (-(p + 1074)).toNat = B at *
  generalize hC : N (rg k) * 2 ^ (-(p + 1074)).toNat = C at *
  have t : r = rg k → B = C := fun e => by rw [← hB, ← hC, e]
  have z : r = 0 → B = 0 := fun e => by rw [← hB, e, N_zero, Nat.zero_mul]
  cases s <;> cases sg k <;> simp only [sn, if_true, if_false, Bool.false_eq_true, Int.neg_mul] <;> rw [g1, g2, g3] <;> omega

/-- The distance, signed. -/
theorem nearest_err {s : Bool} {m r : Nat} {p : Int} (hr : r < 9218868437227405312)
    (h1 : hiNear r m (p + 1074)) (h2 : loNear r m (p + 1074)) :
    9007199254740992 * (sv (wd s r) * ((2 ^ (-(p + 1074)).toNat : Nat) : Int) - sn s m * ((2 ^ (p + 1074).toNat : Nat) : Int)) ≤ (m : Int) * ((2 ^ (p + 1074).toNat : Nat) : Int) + 4503599627370496 * ((2 ^ (-(p + 1074)).toNat : Nat) : Int) ∧
    9007199254740992 * (sn s m * ((2 ^ (p + 1074).toNat : Nat) : Int) - sv (wd s r) * ((2 ^ (-(p + 1074)).toNat : Nat) : Int)) ≤ (m : Int) * ((2 ^ (p + 1074).toNat : Nat) : Int) + 4503599627370496 * ((2 ^ (-(p + 1074)).toNat : Nat) : Int) := by
  obtain ⟨d1, d2⟩ := nearest_dist h1 h2
  unfold sv
  rw [sg_wd (by omega), rg_wd (by omega)]
  have g1 : (N r : Int) * ((2 ^ (-(p + 1074)).toNat : Nat) : Int) = ((N r * 2 ^ (-(p + 1074)).toNat : Nat) : Int) := rfl
  have g3 : (m : Int) * ((2 ^ (p + 1074).toNat : Nat) : Int) = ((m * 2 ^ (p + 1074).toNat : Nat) : Int) := rfl
  generalize m * 2 ^ (p + 1074).toNat = V at *
  generalize N r * 2 ^ (-(p + 1074)).toNat = B at *
  generalize 2 ^ (-(p + 1074)).toNat = Q at *
  cases s <;> simp only [sn, if_true, if_false, Bool.false_eq_true, Int.neg_mul] <;> rw [g1, g3] <;> omega

/-- A word that is a rounding of 'q'. -/
structure Rnd (q : Rat) (r : Nat) : Prop where
  lt : r < 18446744073709551616
  nn : ¬ nan r
  ge : ∀ {k : Nat}, fin k → val k ≤ q → ky k ≤ ky r
  le : ∀ {k : Nat}, fin k → q ≤ val k → ky r ≤ ky k
def tiny : Rat := cc⁻¹
theorem tiny_pos : 0 < tiny := Rat.inv_pos.2 cc_pos
/-- The nearest word to 'q'. -/
structure Near (q : Rat) (r : Nat) : Prop extends Rnd q r where
  close : fin r → ∀ k : Nat, (val r ≤ val k ∨ val r + val k ≤ 2 * q) ∧ (val k ≤ val r ∨ 2 * q ≤ val r + val k)
  err : fin r → ∀ a : Rat, q ≤ a → -q ≤ a → 9007199254740992 * (val r - q) ≤ a + 4503599627370496 * tiny ∧ 9007199254740992 * (q - val r) ≤ a + 4503599627370496 * tiny

theorem Ex.near {s : Bool} {m : Nat} {p : Int} {q : Rat} (h : Ex s m p q) : Near q (double.nearest s m p) := by
  obtain ⟨r, e, h1, h2⟩ := nearest_near s m p
  have hm : min r 9218868437227405312 ≤ 9218868437227405312 := Nat.min_le_right _ _
  have hQ := nat_pos_rat (Nat.two_pow_pos (-(p + 1074)).toNat)
  have hQc : 0 < cc * (((2 ^ (-(p + 1074)).toNat : Nat) : Int) : Rat) := Rat.mul_pos cc_pos hQ
  have hlt : double.nearest s m p < 18446744073709551616 := by rw [e]; unfold wd; split <;> omega
  have hnn : ¬ nan (double.nearest s m p) := by rw [e]; unfold nan; rw [rg_wd (by omega)]; omega
  have hfin : fin (double.nearest s m p) → min r 9218868437227405312 = r ∧ r < 9218868437227405312 := by
    intro hf; unfold fin at hf; rw [e, rg_wd (by omega)] at hf; omega
  refine ⟨⟨hlt, hnn, fun hk hl => h.ge hk hl, fun hk hl => h.le hk hl⟩, fun hf k => ?_, fun hf a ha hb => ?_⟩
  · obtain ⟨er, hr⟩ := hfin hf
    rw [er] at e
    have b := nearest_best e hr h1 h2 k
    rw [e]
    have toR : ∀ x : Nat, ((sv x * ((2 ^ (-(p + 1074)).toNat : Nat) : Int) : Int) : Rat) = val x * (cc * (((2 ^ (-(p + 1074)).toNat : Nat) : Int) : Rat)) := by
      intro x; rw [Rat.intCast_mul, ← val_cc, Rat.mul_assoc]
    have toA : ((2 * (sn s m * ((2 ^ (p + 1074).toNat : Nat) : Int)) : Int) : Rat) = 2 * q * (cc * (((2 ^ (-(p + 1074)).toNat : Nat) : Int) : Rat)) := by
      rw [Rat.intCast_mul]; unfold Ex at h; rw [← h]; rw [Rat.mul_assoc, Rat.mul_assoc]; rfl
    obtain ⟨b1, b2⟩ := b
    constructor
    · rcases b1 with b1 | b1
      · left
        have := Rat.intCast_le_intCast.2 b1
        rw [toR, toR] at this
        exact Rat.le_of_mul_le_mul_right this hQc
      · right
        have := Rat.intCast_le_intCast.2 b1
        rw [Rat.intCast_add, toR, toR, toA, ← Rat.add_mul] at this
        exact Rat.le_of_mul_le_mul_right this hQc
    · rcases b2 with b2 | b2
      · left
        have := Rat.intCast_le_intCast.2 b2
        rw [toR, toR] at this
        exact Rat.le_of_mul_le_mul_right this hQc
      · right
        have := Rat.intCast_le_intCast.2 b2
        rw [Rat.intCast_add, toR, toR, toA, ← Rat.add_mul] at this
        exact Rat.le_of_mul_le_mul_right this hQc
  · obtain ⟨er, hr⟩ := hfin hf
    rw [er] at e
    obtain ⟨b1, b2⟩ := nearest_err (s := s) hr h1 h2
    rw [e]
    unfold Ex at h
    have toR : ((sv (wd s r) * ((2 ^ (-(p + 1074)).toNat : Nat) : Int) : Int) : Rat) = val (wd s r) * (cc * (((2 ^ (-(p + 1074)).toNat : Nat) : Int) : Rat)) := by
      rw [Rat.intCast_mul, ← val_cc, Rat.mul_assoc]
    have toA : ((sn s m * ((2 ^ (p + 1074).toNat : Nat) : Int) : Int) : Rat) = q * (cc * (((2 ^ (-(p + 1074)).toNat : Nat) : Int) : Rat)) := by
      rw [← h, Rat.mul_assoc]
    have hV : (((m : Int) * ((2 ^ (p + 1074).toNat : Nat) : Int) : Int) : Rat) ≤ a * (cc * (((2 ^ (-(p + 1074)).toNat : Nat) : Int) : Rat)) := by
      have ha' := Rat.mul_le_mul_of_nonneg_right ha (Rat.le_of_lt hQc)
      have hb' := Rat.mul_le_mul_of_nonneg_right hb (Rat.le_of_lt hQc)
      rw [← toA] at ha'
      rw [Rat.neg_mul, ← toA] at hb'
      cases s
      · simpa [sn] using ha'
      · have e3 : ((m : Int) * ((2 ^ (p + 1074).toNat : Nat) : Int)) = -(sn true m * ((2 ^ (p + 1074).toNat : Nat) : Int)) := by simp [sn, Int.neg_mul]
        rw [e3, Rat.intCast_neg]; exact hb'
    have ht : (((4503599627370496 * ((2 ^ (-(p + 1074)).toNat : Nat) : Int) : Int)) : Rat) = 4503599627370496 * tiny * (cc * (((2 ^ (-(p + 1074)).toNat : Nat) : Int) : Rat)) := by
      have : tiny * cc = 1 := Rat.inv_mul_cancel _ cc_ne
      rw [Rat.intCast_mul, Rat.mul_assoc, ← Rat.mul_assoc tiny, this, Rat.one_mul]; rfl
    constructor
    · have c := Rat.intCast_le_intCast.2 b1
      rw [Rat.intCast_add, Rat.intCast_mul, Rat.intCast_sub, toR, toA, ht] at c
      refine Rat.le_of_mul_le_mul_right ?_ hQc
      have e9 : ((9007199254740992 : Int) : Rat) = 9007199254740992 := rfl
      rw [e9] at c
      grind
    · have c := Rat.intCast_le_intCast.2 b2
      rw [Rat.intCast_add, Rat.intCast_mul, Rat.intCast_sub, toR, toA, ht] at c
      refine Rat.le_of_mul_le_mul_right ?_ hQc
      have e9 : ((9007199254740992 : Int) : Rat) = 9007199254740992 := rfl
      rw [e9] at c
      grind

/-! ### The operations -/
theorem sn_natAbs (T : Int) (b : Bool) : sn (if T = 0 then b else decide (T < 0)) T.natAbs = T := by
  unfold sn
  by_cases h : T = 0
  · subst h; cases b <;> rfl
  · rw [if_neg h]; by_cases h2 : T < 0
    · simp [h2]; omega
    · simp [h2]; omega
theorem Ex.units {s : Bool} {m : Nat} {q : Rat} (h : q * cc = (sn s m : Rat)) : Ex s m (-1074) q := by
  unfold Ex
  rw [show (-(-1074 + 1074 : Int)).toNat = 0 by decide, show (-1074 + 1074 : Int).toNat = 0 by decide]
  show q * cc * 1 = ((sn s m * 1 : Int) : Rat)
  rw [Rat.mul_one, Int.mul_one]; exact h
section
variable {x y : Nat}
theorem fadd (hx : fin x) (hy : fin y) : ∃ r, double.add x y = some r ∧ Near (val x + val y) r := by
  rw [add_spec hx hy]
  refine ⟨_, rfl, ?_⟩
  refine Ex.near (Ex.units ?_)
  rw [sn_natAbs, Rat.add_mul, val_cc, val_cc, Rat.intCast_add]
theorem fsub (hx : fin x) (hy : fin y) : ∃ r, double.sub x y = some r ∧ Near (val x - val y) r := by
  rw [sub_spec hx hy]
  refine ⟨_, rfl, ?_⟩
  refine Ex.near (Ex.units ?_)
  rw [sn_natAbs, Rat.intCast_sub, ← val_cc, ← val_cc]; grind
theorem sn_xor (a b : Bool) (m n : Nat) : sn (a ^^ b) (m * n) = sn a m * sn b n := by
  cases a <;> cases b <;> simp [sn, Int.neg_mul, Int.mul_neg]
theorem fmul (hx : fin x) (hy : fin y) : ∃ r, double.mul x y = some r ∧ Near (val x * val y) r := by
  rw [mul_spec hx hy]
  refine ⟨_, rfl, ?_⟩
  refine Ex.near ?_
  unfold Ex
  rw [show (-(-2148 + 1074 : Int)).toNat = 1074 by decide, show (-2148 + 1074 : Int).toNat = 0 by decide]
  rw [sn_xor, pow_cast 1074]
  show val x * val y * cc * cc = ((sn (sg x) (N (rg x)) * sn (sg y) (N (rg y)) * 1 : Int) : Rat)
  rw [Int.mul_one, Rat.intCast_mul]
  have hx' := val_cc x; have hy' := val_cc y
  unfold sv at hx' hy'
  rw [← hx', ← hy']
  grind
theorem fint (n : Int) : Near (n : Rat) (iw n) := by
  unfold iw
  refine Ex.near ?_
  unfold Ex
  rw [show (-(0 + 1074 : Int)).toNat = 0 by decide, show (0 + 1074 : Int).toNat = 1074 by decide]
  have : sn (decide (n < 0)) n.natAbs = n := by unfold sn; by_cases h : n < 0 <;> simp [h] <;> omega
  rw [this, Rat.intCast_mul, pow_cast 1074]
  exact Rat.mul_one _
end

/-! ### Signs of the results -/
theorem sg_nearest (s : Bool) (m : Nat) (p : Int) : sg (double.nearest s m p) = s := by
  obtain ⟨r, hr, e⟩ := nearest_form s m p
  rw [e, sg_wd (by omega)]
theorem mul_sg {x y r : Nat} (hx : fin x) (hy : fin y) (h : double.mul x y = some r) : sg r = (sg x ^^ sg y) := by
  rw [mul_spec hx hy] at h; cases h; exact sg_nearest _ _ _

/-! ### The quotient -/
def magOf : Datum → Nat
  | .number _ m _ => m
  | _ => 0
theorem fdiv_form {x y : Nat} (hx : fin x) (hy : fin y) (h0 : rg y ≠ 0) : ∃ (F d m n i j more : Nat), double.div x y = some (double.nearest (sg x ^^ sg y) (2 * F + d) ((i : Int) - j - more - 1)) ∧
    m * 2 ^ i = N (rg x) ∧ n * 2 ^ j = N (rg y) ∧ F * n ≤ m * 2 ^ more ∧ m * 2 ^ more < (F + 1) * n ∧ (d = 0 ∧ F * n = m * 2 ^ more ∨ d = 1 ∧ F * n ≠ m * 2 ^ more) ∧ (m = 0 ∨ 9007199254740992 ≤ F) ∧ 0 < n := by
  unfold Format.div
  rw [read_eq, read_eq]
  obtain ⟨m, i, e, em, _⟩ := dec_num (s := sg x) hx
  obtain ⟨n, j, e2, en, n0⟩ := dec_num (s := sg y) hy
  have hn : n ≠ 0 := fun c => h0 (n0.1 c)
  rw [e, e2]
  simp only [Datum.quotient]
  rw [if_neg hn]
  simp only [Option.map_some, Format.write]
  rw [e_fb]
  obtain ⟨more, hmore⟩ : ∃ more : Nat, more = 52 + 2 + n.log2 - m.log2 := ⟨_, rfl⟩
  rw [← hmore, Nat.shiftLeft_eq]
  have hdm := Nat.div_add_mod (m * 2 ^ more) n
  have hml := Nat.mod_lt (m * 2 ^ more) (show n > 0 by omega)
  have hcm : m * 2 ^ more / n * n = n * (m * 2 ^ more / n) := Nat.mul_comm _ _
  refine ⟨m * 2 ^ more / n, (m * 2 ^ more % n != 0).toNat, m, n, i, j, more, ?_, em, en, ?_, ?_, ?_, ?_, by omega⟩
  · congr 2; omega
  · omega
  · rw [Nat.add_mul]; omega
  · by_cases c : m * 2 ^ more % n = 0
    · left; exact ⟨by simp [c], by omega⟩
    · right; exact ⟨by simp [c], by omega⟩
  · by_cases hm : m = 0
    · exact .inl hm
    · right
      have hN := N_le (show rg x ≤ 9218868437227405311 by unfold fin at hx; omega)
      have hm2 : m < 9007199254740992 := by
        have e9 := congrArg magOf e
        unfold dec at e9
        have := Nat.mod_lt (rg x) (show 4503599627370496 > 0 by omega)
        split at e9
        · simp only [magOf] at e9; omega
        · split at e9
          · simp only [magOf] at e9; omega
          · split at e9 <;> simp only [magOf] at e9 <;> omega
      have hg : m.log2 ≤ 52 := by
        have := (Nat.log2_lt hm).2 (show m < 2 ^ 53 by omega); omega
      have a1 := Nat.log2_self_le hm
      have a2 : n < 2 ^ (n.log2 + 1) := Nat.lt_log2_self
      have a3 : 2 ^ m.log2 * 2 ^ more ≤ m * 2 ^ more := Nat.mul_le_mul_right _ a1
      rw [← Nat.pow_add, show m.log2 + more = 53 + (n.log2 + 1) by omega, Nat.pow_add] at a3
      rw [Nat.le_div_iff_mul_le (by omega)]
      have a4 : 2 ^ 53 * n ≤ 2 ^ 53 * 2 ^ (n.log2 + 1) := Nat.mul_le_mul_left _ (by omega)
      have : (2 : Nat) ^ 53 = 9007199254740992 := by decide
      omega

theorem N_parts (k : Nat) : ∃ K L : Nat, N k = K * 2 ^ L ∧ K < 9007199254740992 := by
  unfold N
  split
  · exact ⟨k, 0, by omega, by omega⟩
  · exact ⟨_, _, rfl, by have := Nat.mod_lt k (show 4503599627370496 > 0 by omega); omega⟩
/-- No word lies strictly between two neighbours on the finer scale. -/
theorem no_between {k F a b : Nat} (hF : 9007199254740992 ≤ F) : ¬ ((2 * F + 1) * 2 ^ a < N k * 2 ^ b ∧ N k * 2 ^ b < (2 * F + 2) * 2 ^ a) ∧ ¬ (2 * F * 2 ^ a < N k * 2 ^ b ∧ N k * 2 ^ b < (2 * F + 1) * 2 ^ a) := by
  obtain ⟨K, L, e, hK⟩ := N_parts k
  rw [e, Nat.mul_assoc, ← Nat.pow_add]
  have ha := Nat.two_pow_pos a
  by_cases hc : a + 1 ≤ L + b
  · have e2 : K * 2 ^ (L + b) = 2 * (K * 2 ^ (L + b - (a + 1))) * 2 ^ a := by
      rw [show L + b = L + b - (a + 1) + (a + 1) by omega, Nat.pow_add _ _ (a + 1), Nat.pow_succ]
      rw [show L + b - (a + 1) + (a + 1) - (a + 1) = L + b - (a + 1) by omega]; ac_rfl
    rw [e2]
    generalize K * 2 ^ (L + b - (a + 1)) = c
    constructor
    · intro ⟨h1, h2⟩
      have h1 := Nat.lt_of_mul_lt_mul_right h1
      have h2 := Nat.lt_of_mul_lt_mul_right h2
      omega
    · intro ⟨h1, h2⟩
      have h1 := Nat.lt_of_mul_lt_mul_right h1
      have h2 := Nat.lt_of_mul_lt_mul_right h2
      omega
  · have e3 : K * 2 ^ (L + b) ≤ K * 2 ^ a := Nat.mul_le_mul_left _ (Nat.pow_le_pow_right (by omega) (by omega))
    have e4 : K * 2 ^ a ≤ 2 * F * 2 ^ a := Nat.mul_le_mul_right _ (by omega)
    have e5 : 2 * F * 2 ^ a ≤ (2 * F + 1) * 2 ^ a := Nat.mul_le_mul_right _ (by omega)
    constructor <;> (intro ⟨h1, h2⟩; omega)

theorem quot_lev {F d m n i j more k c : Nat} {p : Int} (hp : p = (i : Int) - j - more - 1 + c) (h1 : F * n ≤ m * 2 ^ more) (h2 : m * 2 ^ more < (F + 1) * n)
    (hd : d = 0 ∧ F * n = m * 2 ^ more ∨ d = 1 ∧ F * n ≠ m * 2 ^ more) (hF : m = 0 ∨ 9007199254740992 ≤ F) (hn : 0 < n) :
    (N k * (n * 2 ^ j) ≤ m * 2 ^ i * 2 ^ c → lev k (2 * F + d) p) ∧ (m * 2 ^ i * 2 ^ c ≤ N k * (n * 2 ^ j) → gev k (2 * F + d) p) := by
  unfold lev gev
  obtain ⟨a, ha⟩ : ∃ a, a = p.toNat := ⟨_, rfl⟩
  obtain ⟨b, hb⟩ : ∃ b, b = (-p).toNat := ⟨_, rfl⟩
  rw [← ha, ← hb]
  have hx : i + c + b = a + j + more + 1 := by omega
  have g1 : m * 2 ^ i * 2 ^ c * 2 ^ b = 2 * (m * 2 ^ more) * 2 ^ a * 2 ^ j := by
    have : m * 2 ^ i * 2 ^ c * 2 ^ b = m * 2 ^ (i + c + b) := by rw [Nat.mul_assoc m, ← Nat.pow_add, Nat.mul_assoc m, ← Nat.pow_add]
    rw [this, hx, Nat.pow_succ, Nat.pow_add, Nat.pow_add]; ac_rfl
  have g2 : N k * (n * 2 ^ j) * 2 ^ b = N k * 2 ^ b * n * 2 ^ j := by ac_rfl
  have ha0 := Nat.two_pow_pos a
  have hj0 := Nat.two_pow_pos j
  have hb0 := Nat.two_pow_pos b
  by_cases hm : m = 0
  · subst hm
    have hF0 : F = 0 := by
      rw [Nat.zero_mul] at h1
      rcases Nat.eq_zero_or_pos F with h | h
      · exact h
      · have := Nat.mul_pos h hn; omega
    subst hF0
    have hd0 : d = 0 := by
      rcases hd with ⟨h, _⟩ | ⟨_, h⟩
      · exact h
      · exact absurd (by simp) h
    subst hd0
    constructor
    · intro h
      rw [Nat.zero_mul, Nat.zero_mul] at h
      have hz : N k * (n * 2 ^ j) = 0 := by omega
      rcases Nat.mul_eq_zero.1 hz with h | h
      · rw [h]; simp
      · rcases Nat.mul_eq_zero.1 h with h | h <;> omega
    · intro _; simp
  · have hF : 9007199254740992 ≤ F := by omega
    have nb := @no_between k F a b hF
    constructor
    · intro h
      have h3 := Nat.mul_le_mul_right (2 ^ b) h
      rw [g1, g2] at h3
      have h4 := Nat.le_of_mul_le_mul_right h3 hj0
      rcases hd with ⟨hd, he⟩ | ⟨hd, he⟩
      · subst hd
        rw [← he] at h4
        have h5 : N k * 2 ^ b * n ≤ (2 * F + 0) * 2 ^ a * n := Nat.le_trans h4 (Nat.le_of_eq (by rw [Nat.add_zero]; ac_rfl))
        exact Nat.le_of_mul_le_mul_right h5 hn
      · subst hd
        false_or_by_contra
        rename_i hc
        refine nb.1 ⟨by omega, ?_⟩
        have h6 : 2 * (m * 2 ^ more) * 2 ^ a < 2 * ((F + 1) * n) * 2 ^ a := Nat.mul_lt_mul_of_pos_right (by omega) ha0
        have h7 : N k * 2 ^ b * n < (2 * F + 2) * 2 ^ a * n := Nat.lt_of_lt_of_eq (Nat.lt_of_le_of_lt h4 h6) (by rw [show 2 * F + 2 = 2 * (F + 1) by omega]; ac_rfl)
        exact Nat.lt_of_mul_lt_mul_right h7
    · intro h
      have h3 := Nat.mul_le_mul_right (2 ^ b) h
      rw [g1, g2] at h3
      have h4 := Nat.le_of_mul_le_mul_right h3 hj0
      rcases hd with ⟨hd, he⟩ | ⟨hd, he⟩
      · subst hd
        rw [← he] at h4
        have h5 : (2 * F + 0) * 2 ^ a * n ≤ N k * 2 ^ b * n := Nat.le_trans (Nat.le_of_eq (by rw [Nat.add_zero]; ac_rfl)) h4
        exact Nat.le_of_mul_le_mul_right h5 hn
      · subst hd
        false_or_by_contra
        rename_i hc
        refine nb.2 ⟨?_, by omega⟩
        have h6 : 2 * (F * n) * 2 ^ a < 2 * (m * 2 ^ more) * 2 ^ a := Nat.mul_lt_mul_of_pos_right (by omega) ha0
        have h7 : 2 * F * 2 ^ a * n < N k * 2 ^ b * n := Nat.lt_of_le_of_lt (Nat.le_of_eq (by ac_rfl)) (Nat.lt_of_lt_of_le h6 h4)
        exact Nat.lt_of_mul_lt_mul_right h7

/-- The magnitude of a rung. -/
def uv (k : Nat) : Rat := ((N k : Int) : Rat) / cc
theorem uv_cc (k : Nat) : uv k * cc = ((N k : Int) : Rat) := by unfold uv; exact Rat.div_mul_cancel cc_ne
theorem val_uv (k : Nat) : val k = if sg k then -uv (rg k) else uv (rg k) := by
  unfold val uv sv sn
  split
  · rw [Rat.intCast_neg]; grind
  · rfl
theorem uv_nonneg (k : Nat) : 0 ≤ uv k := by
  refine Rat.le_of_mul_le_mul_right ?_ cc_pos
  rw [uv_cc, Rat.zero_mul]; exact Rat.intCast_nonneg.2 (by omega)
theorem uv_zero {k : Nat} (h : uv k ≤ 0) : k = 0 := by
  have := Rat.mul_le_mul_of_nonneg_right h (Rat.le_of_lt cc_pos)
  rw [uv_cc, Rat.zero_mul] at this
  have := Rat.intCast_nonpos.1 this
  exact zero_of_N (by omega)

theorem rnd_of {s : Bool} {M : Nat} {p : Int} {t q : Rat} (ht : 0 ≤ t) (hq : q = if s then -t else t)
    (A : ∀ k, uv k ≤ t → lev k M (p + 1074)) (B : ∀ k, t ≤ uv k → gev k M (p + 1074)) : Rnd q (double.nearest s M p) := by
  obtain ⟨r, e, ek, h1, h2⟩ := ky_nearest s M p
  have hm : min r 9218868437227405312 ≤ 9218868437227405312 := Nat.min_le_right _ _
  have hz : t = 0 → r = 0 := by
    intro h
    have := h2 0 (B 0 (by rw [h]; exact uv_nonneg 0)); omega
  refine ⟨by rw [e]; unfold wd; split <;> omega, by rw [e]; unfold nan; rw [rg_wd (by omega)]; omega, ?_, ?_⟩
  · intro k hk hl
    rw [ek, ky, key]
    rw [val_uv, hq] at hl
    unfold fin at hk
    have hu := uv_nonneg (rg k)
    cases s <;> cases hg : sg k <;> rw [hg] at hl <;> simp only [sn, if_true, if_false, Bool.false_eq_true] at hl ⊢
    · have := h1 _ (A _ hl); omega
    · omega
    · have c1 := uv_zero (k := rg k) (by grind)
      have c2 := hz (by grind)
      omega
    · have := h2 _ (B (rg k) (by grind)); omega
  · intro k hk hl
    rw [ek, ky, key]
    rw [val_uv, hq] at hl
    unfold fin at hk
    have hu := uv_nonneg (rg k)
    cases s <;> cases hg : sg k <;> rw [hg] at hl <;> simp only [sn, if_true, if_false, Bool.false_eq_true] at hl ⊢
    · have := h2 _ (B _ hl); omega
    · have c1 := uv_zero (k := rg k) (by grind)
      have c2 := hz (by grind)
      omega
    · omega
    · have := h1 _ (A (rg k) (by grind)); omega

theorem mul4 (a b c : Rat) : a * b * c * c = a * c * (b * c) := by grind
def cE : Nat := 1074
theorem fdiv {x y : Nat} (hx : fin x) (hy : fin y) (h0 : rg y ≠ 0) : ∃ r, double.div x y = some r ∧ Rnd (val x / val y) r ∧ sg r = (sg x ^^ sg y) := by
  obtain ⟨F, d, m, n, i, j, more, e, em, en, a1, a2, a3, a4, a5⟩ := fdiv_form hx hy h0
  refine ⟨_, e, ?_, sg_nearest _ _ _⟩
  have hny : 0 < uv (rg y) := by
    refine Rat.not_le.1 fun c => h0 (uv_zero c)
  have hnx := uv_nonneg (rg x)
  have hne : uv (rg y) ≠ 0 := fun c => by rw [c] at hny; exact absurd hny (by decide)
  have ht : 0 ≤ uv (rg x) / uv (rg y) := by
    rw [Rat.div_def]; exact Rat.mul_nonneg hnx (Rat.le_of_lt (Rat.inv_pos.2 hny))
  have key : ∀ k, ((N k * (n * 2 ^ j) : Nat) : Int) = ((N k : Int) * (N (rg y) : Int)) := by intro k; rw [en]; push_cast; rfl
  have cmp : ∀ k, (uv k ≤ uv (rg x) / uv (rg y) → N k * (n * 2 ^ j) ≤ m * 2 ^ i * 2 ^ cE) ∧ (uv (rg x) / uv (rg y) ≤ uv k → m * 2 ^ i * 2 ^ cE ≤ N k * (n * 2 ^ j)) := by
    intro k
    rw [em, en]
    have e1 : uv k * uv (rg y) * cc * cc = (((N k * N (rg y) : Nat) : Int) : Rat) := by
      rw [Int.natCast_mul, Rat.intCast_mul, ← uv_cc, ← uv_cc, mul4]
    have e2 : uv (rg x) * cc * cc = (((N (rg x) * 2 ^ cE : Nat) : Int) : Rat) := by
      rw [uv_cc, Int.natCast_mul, Rat.intCast_mul, pow_cast cE]; rfl
    have e3 : uv (rg x) / uv (rg y) * uv (rg y) = uv (rg x) := Rat.div_mul_cancel hne
    constructor
    · intro h
      have b1 := Rat.mul_le_mul_of_nonneg_right h (Rat.le_of_lt hny)
      rw [e3] at b1
      have b2 := Rat.mul_le_mul_of_nonneg_right (Rat.mul_le_mul_of_nonneg_right b1 (Rat.le_of_lt cc_pos)) (Rat.le_of_lt cc_pos)
      rw [e1, e2] at b2
      have := Rat.intCast_le_intCast.1 b2
      exact Int.ofNat_le.1 this
    · intro h
      have b1 := Rat.mul_le_mul_of_nonneg_right h (Rat.le_of_lt hny)
      rw [e3] at b1
      have b2 := Rat.mul_le_mul_of_nonneg_right (Rat.mul_le_mul_of_nonneg_right b1 (Rat.le_of_lt cc_pos)) (Rat.le_of_lt cc_pos)
      rw [e1, e2] at b2
      have := Rat.intCast_le_intCast.1 b2
      exact Int.ofNat_le.1 this
  refine rnd_of ht ?_ (fun k h => (quot_lev (c := cE) rfl a1 a2 a3 a4 a5).1 ((cmp k).1 h)) (fun k h => (quot_lev (c := cE) rfl a1 a2 a3 a4 a5).2 ((cmp k).2 h))
  rw [val_uv, val_uv]
  cases sg x <;> cases sg y <;> simp only [if_true, if_false, Bool.false_eq_true, Bool.xor_true, Bool.xor_false, Bool.not_true, Bool.not_false] <;> (rw [Rat.div_def, Rat.div_def]; grind)
end Go.Proofs.Ytfacphjjmmfegaa.Fp
