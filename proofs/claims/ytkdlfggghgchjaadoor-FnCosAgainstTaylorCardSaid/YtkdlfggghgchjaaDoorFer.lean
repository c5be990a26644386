/-
  Float64 words with a bound on their distance from a rational: + - * /; polynomials by lists, moved and bounded. No condition. (My own helper text, one copy a seat.)
-/
import Derived.Test.YtkdlfggghgchjaaDoorFri
namespace Go.Proofs.YtkdlfggghgchjaaDoor.Fp
open Ieee

/-- A finite word between two words, at most 'e' from 'q'. -/
structure Va (l h : Nat) (e q : Rat) (x : Nat) : Prop extends In l h x where
  e1 : val x - q ≤ e
  e2 : q - val x ≤ e
theorem Va.self {x : Nat} (h : Fp.fin x) : Va x x 0 (val x) x := ⟨In.self h, by grind, by grind⟩
theorem Va.ofIn {l h x : Nat} (i : In l h x) : Va l h 0 (val x) x := ⟨i, by grind, by grind⟩
theorem Va.at {l h x : Nat} {e q q' : Rat} (v : Va l h e q x) (c : q = q') : Va l h e q' x := c ▸ v
def mag (l h : Nat) : Rat := if -val l ≤ val h then val h else -val l
theorem mag_le {l h : Nat} {v : Rat} (h1 : val l ≤ v) (h2 : v ≤ val h) : v ≤ mag l h ∧ -v ≤ mag l h := by
  unfold mag; split <;> constructor <;> grind
theorem In.mag {l h x : Nat} (i : In l h x) : val x ≤ mag l h ∧ -val x ≤ mag l h := mag_le i.vlo i.vhi
/-- A little more than the least place. -/
def τ : Rat := 1 / 1152921504606846976
theorem tiny_τ : 9007199254740992 * tiny ≤ τ := by
  unfold τ
  refine Rat.le_of_mul_le_mul_right ?_ cc_pos
  rw [Rat.mul_assoc, show tiny * cc = 1 from Rat.inv_mul_cancel _ cc_ne, ← CC_cc, Rat.mul_one]
  have h : ((9007199254740992 * 1152921504606846976 : Int) : Rat) ≤ ((CC : Int) : Rat) := Rat.intCast_le_intCast.2 (by decide +kernel)
  rw [Rat.intCast_mul] at h
  have z1 : ((9007199254740992 : Int) : Rat) = 9007199254740992 := rfl
  have z2 : ((1152921504606846976 : Int) : Rat) = 1152921504606846976 := rfl
  rw [z1, z2] at h
  grind
theorem near_err {q : Rat} {l h r : Nat} (n : Near q r) (f : Fp.fin r) (h1 : val l ≤ q) (h2 : q ≤ val h) : 9007199254740992 * (val r - q) ≤ mag l h + τ ∧ 9007199254740992 * (q - val r) ≤ mag l h + τ := by
  have m := mag_le h1 h2
  have e := n.err f (mag l h) m.1 m.2
  have t := tiny_τ
  have p := tiny_pos
  grind
section
variable {lx hx ly hy x y : Nat} {e f q p : Rat}
def cAdd (lx hx ly hy : Nat) (e f : Rat) (lz hz : Nat) (g : Rat) : Bool := chkAdd lx hx ly hy lz hz && decide (9007199254740992 * (e + f) + mag lz hz + τ ≤ 9007199254740992 * g)
theorem va_add (ax : Va lx hx e q x) (ay : Va ly hy f p y) {lz hz : Nat} {g : Rat} (c : cAdd lx hx ly hy e f lz hz g = true) : ∃ r, double.add x y = some r ∧ Va lz hz g (q + p) r := by
  simp only [cAdd, Bool.and_eq_true, decide_eq_true_eq] at c
  obtain ⟨c1, c2⟩ := c
  obtain ⟨r, h, i⟩ := add_in ax.toIn ay.toIn c1
  simp only [chkAdd, Bool.and_eq_true, decide_eq_true_eq] at c1
  obtain ⟨⟨⟨-, -⟩, d3⟩, d4⟩ := c1
  have b1 := sum_le d3
  have b2 := le_sum d4
  have := ax.vlo; have := ax.vhi; have := ay.vlo; have := ay.vhi
  have n := near_err (l := lz) (h := hz) (add_near ax.toIn ay.toIn h) i.fin (by grind) (by grind)
  have := ax.e1; have := ax.e2; have := ay.e1; have := ay.e2
  exact ⟨r, h, i, by grind, by grind⟩
/-- The sum of something and a small thing: no further off than the small thing. -/
def cAddS (lx hx ly hy : Nat) (e f : Rat) (lz hz : Nat) (g : Rat) : Bool := chkAdd lx hx ly hy lz hz && decide (e + f + mag ly hy ≤ g)
theorem va_addS (ax : Va lx hx e q x) (ay : Va ly hy f p y) {lz hz : Nat} {g : Rat} (c : cAddS lx hx ly hy e f lz hz g = true) : ∃ r, double.add x y = some r ∧ Va lz hz g (q + p) r := by
  simp only [cAddS, Bool.and_eq_true, decide_eq_true_eq] at c
  obtain ⟨c1, c2⟩ := c
  obtain ⟨r, h, i⟩ := add_in ax.toIn ay.toIn c1
  have n := (add_near ax.toIn ay.toIn h).close i.fin x
  have m := ay.toIn.mag
  have := ax.e1; have := ax.e2; have := ay.e1; have := ay.e2
  obtain ⟨n1, n2⟩ := n
  exact ⟨r, h, i, by grind, by grind⟩
def cSub (lx hx ly hy : Nat) (e f : Rat) (lz hz : Nat) (g : Rat) : Bool := chkSub lx hx ly hy lz hz && decide (9007199254740992 * (e + f) + mag lz hz + τ ≤ 9007199254740992 * g)
theorem va_sub (ax : Va lx hx e q x) (ay : Va ly hy f p y) {lz hz : Nat} {g : Rat} (c : cSub lx hx ly hy e f lz hz g = true) : ∃ r, double.sub x y = some r ∧ Va lz hz g (q - p) r := by
  simp only [cSub, Bool.and_eq_true, decide_eq_true_eq] at c
  obtain ⟨c1, c2⟩ := c
  obtain ⟨r, h, i⟩ := sub_in ax.toIn ay.toIn c1
  simp only [chkSub, Bool.and_eq_true, decide_eq_true_eq] at c1
  obtain ⟨⟨⟨-, -⟩, d3⟩, d4⟩ := c1
  have b1 := le_sum d3
  have b2 := sum_le d4
  have := ax.vlo; have := ax.vhi; have := ay.vlo; have := ay.vhi
  have n := near_err (l := lz) (h := hz) (sub_near ax.toIn ay.toIn h) i.fin (by grind) (by grind)
  have := ax.e1; have := ax.e2; have := ay.e1; have := ay.e2
  exact ⟨r, h, i, by grind, by grind⟩
/-- Products of near things. -/
theorem prod_near {a b q p e f A B : Rat} (h1 : a - q ≤ e) (h2 : q - a ≤ e) (h3 : b - p ≤ f) (h4 : p - b ≤ f) (ma : a ≤ A) (ma' : -a ≤ A) (mb : b ≤ B) (mb' : -b ≤ B) :
    a * b - q * p ≤ e * B + (A + e) * f ∧ q * p - a * b ≤ e * B + (A + e) * f := by
  have e0 : 0 ≤ e := by grind
  have f0 : 0 ≤ f := by grind
  have B0 : 0 ≤ B := by grind
  have A0 : 0 ≤ A := by grind
  have k1 := corner_hi (x := a - q) (y := b) (a := -e) (b := e) (c := -B) (d := B) (m := e * B) (by grind) (by grind) (by grind) (by grind) (by grind) (by have := Rat.mul_nonneg e0 B0; grind) (by have := Rat.mul_nonneg e0 B0; grind) (by grind)
  have k2 := corner_lo (x := a - q) (y := b) (a := -e) (b := e) (c := -B) (d := B) (m := -(e * B)) (by grind) (by grind) (by grind) (by grind) (by have := Rat.mul_nonneg e0 B0; grind) (by grind) (by grind) (by have := Rat.mul_nonneg e0 B0; grind)
  have nn := Rat.mul_nonneg (show 0 ≤ A + e by grind) f0
  have k3 := corner_hi (x := q) (y := b - p) (a := -(A + e)) (b := A + e) (c := -f) (d := f) (m := (A + e) * f) (by grind) (by grind) (by grind) (by grind) (by grind) (by grind) (by grind) (by grind)
  have k4 := corner_lo (x := q) (y := b - p) (a := -(A + e)) (b := A + e) (c := -f) (d := f) (m := -((A + e) * f)) (by grind) (by grind) (by grind) (by grind) (by grind) (by grind) (by grind) (by grind)
  have id1 : a * b - q * p = (a - q) * b + q * (b - p) := by grind
  constructor <;> grind
def cMul (lx hx ly hy : Nat) (e f : Rat) (lz hz : Nat) (g : Rat) : Bool := chkMul lx hx ly hy lz hz && decide (9007199254740992 * (e * mag ly hy + (mag lx hx + e) * f) + mag lz hz + τ ≤ 9007199254740992 * g)
theorem va_mul (ax : Va lx hx e q x) (ay : Va ly hy f p y) {lz hz : Nat} {g : Rat} (c : cMul lx hx ly hy e f lz hz g = true) : ∃ r, double.mul x y = some r ∧ Va lz hz g (q * p) r := by
  simp only [cMul, Bool.and_eq_true, decide_eq_true_eq] at c
  obtain ⟨c1, c2⟩ := c
  obtain ⟨r, h, i⟩ := mul_in ax.toIn ay.toIn c1
  simp only [chkMul, Bool.and_eq_true, decide_eq_true_eq] at c1
  obtain ⟨⟨⟨⟨⟨⟨⟨⟨⟨d1, d2⟩, a1⟩, a2⟩, a3⟩, a4⟩, b1⟩, b2⟩, b3⟩, b4⟩ := c1
  have n := near_err (l := lz) (h := hz) (mul_near ax.toIn ay.toIn h) i.fin
    (corner_lo ax.vlo ax.vhi ay.vlo ay.vhi (le_prod a1) (le_prod a2) (le_prod a3) (le_prod a4))
    (corner_hi ax.vlo ax.vhi ay.vlo ay.vhi (prod_le b1) (prod_le b2) (prod_le b3) (prod_le b4))
  obtain ⟨k1, k2⟩ := prod_near ax.e1 ax.e2 ay.e1 ay.e2 ax.toIn.mag.1 ax.toIn.mag.2 ay.toIn.mag.1 ay.toIn.mag.2
  exact ⟨r, h, i, by grind, by grind⟩
end
/-! ### Quotients -/
theorem N_gap2 (r : Nat) : N (r + 1) * 4503599627370496 ≤ N r * 4503599627370497 + 4503599627370496 := by
  have := N_gap r
  omega
theorem uv_gap (r : Nat) : 4503599627370496 * (uv (r + 1) - uv r) ≤ uv r + 4503599627370496 * tiny := by
  refine Rat.le_of_mul_le_mul_right ?_ cc_pos
  have e1 : (4503599627370496 * (uv (r + 1) - uv r)) * cc = 4503599627370496 * ((N (r + 1) : Int) : Rat) - 4503599627370496 * ((N r : Int) : Rat) := by rw [← uv_cc, ← uv_cc]; grind
  have e2 : (uv r + 4503599627370496 * tiny) * cc = ((N r : Int) : Rat) + 4503599627370496 := by
    rw [← uv_cc]
    have : tiny * cc = 1 := Rat.inv_mul_cancel _ cc_ne
    grind
  rw [e1, e2]
  have h : (((N (r + 1) * 4503599627370496 : Nat) : Int) : Rat) ≤ (((N r * 4503599627370497 + 4503599627370496 : Nat) : Int) : Rat) := Rat.intCast_le_intCast.2 (Int.ofNat_le.2 (N_gap2 r))
  rw [Int.natCast_mul, Int.natCast_add, Int.natCast_mul, Rat.intCast_mul, Rat.intCast_add, Rat.intCast_mul] at h
  have z1 : (((4503599627370496 : Nat) : Int) : Rat) = 4503599627370496 := rfl
  have z2 : (((4503599627370497 : Nat) : Int) : Rat) = 4503599627370497 := rfl
  rw [z1, z2] at h
  grind
theorem uv_mono {a b : Nat} (h : a ≤ b) : uv a ≤ uv b := by
  refine Rat.le_of_mul_le_mul_right ?_ cc_pos
  rw [uv_cc, uv_cc]
  exact Rat.intCast_le_intCast.2 (Int.ofNat_le.2 (N_le h))
theorem uv_z : uv 0 = 0 := by
  unfold uv; rw [N_zero, Rat.div_def]; exact Rat.zero_mul _
/-- How far a rounding can be off: a place. -/
theorem Rnd.place {q : Rat} {r : Nat} (n : Rnd q r) (f : rg r < 9218868437227405311) : 4503599627370496 * (val r - q) ≤ uv (rg r) + 4503599627370496 * tiny ∧ 4503599627370496 * (q - val r) ≤ uv (rg r) + 4503599627370496 * tiny := by
  have tp := tiny_pos
  have un := uv_nonneg (rg r)
  have g1 := uv_gap (rg r)
  -- the neighbours
  have up : ∃ k, Fp.fin k ∧ ¬ ky k ≤ ky r ∧ 4503599627370496 * (val k - val r) ≤ uv (rg r) + 4503599627370496 * tiny := by
    by_cases hs : sg r = true
    · by_cases h0 : rg r = 0
      · refine ⟨wd false 1, by decide, ?_, ?_⟩
        · have : ky r = 0 := by unfold ky key sn; rw [h0, hs]; rfl
          rw [this]; decide
        · have v1 : val (wd false 1) = uv 1 := by rw [val_uv]; rfl
          rw [v1, val_uv, hs, h0, uv_z]
          have := uv_gap 0
          rw [uv_z] at this
          simp only [if_true]
          grind
      · obtain ⟨k, hk⟩ : ∃ k, rg r = k + 1 := ⟨rg r - 1, by omega⟩
        refine ⟨wd true k, by unfold Fp.fin; rw [rg_wd (by omega)]; omega, ?_, ?_⟩
        · unfold ky key sn; rw [sg_wd (by omega), rg_wd (by omega), hs]; simp; omega
        · rw [val_uv, val_uv, sg_wd (by omega), rg_wd (by omega), hs, hk]
          have := uv_gap k
          have := uv_mono (show k ≤ k + 1 by omega)
          simp only [if_true]
          grind
    · rw [Bool.not_eq_true] at hs
      refine ⟨wd false (rg r + 1), by unfold Fp.fin; rw [rg_wd (by omega)]; omega, ?_, ?_⟩
      · unfold ky key sn; rw [sg_wd (by omega), rg_wd (by omega), hs]; simp; omega
      · rw [val_uv, val_uv, sg_wd (by omega), rg_wd (by omega), hs]
        simp only [Bool.false_eq_true, if_false]
        grind
  have dn : ∃ k, Fp.fin k ∧ ¬ ky r ≤ ky k ∧ 4503599627370496 * (val r - val k) ≤ uv (rg r) + 4503599627370496 * tiny := by
    by_cases hs : sg r = true
    · refine ⟨wd true (rg r + 1), by unfold Fp.fin; rw [rg_wd (by omega)]; omega, ?_, ?_⟩
      · unfold ky key sn; rw [sg_wd (by omega), rg_wd (by omega), hs]; simp; omega
      · rw [val_uv, val_uv, sg_wd (by omega), rg_wd (by omega), hs]
        simp only [if_true]
        grind
    · rw [Bool.not_eq_true] at hs
      by_cases h0 : rg r = 0
      · refine ⟨wd true 1, by decide, ?_, ?_⟩
        · have : ky r = 0 := by unfold ky key sn; rw [h0, hs]; rfl
          rw [this]; decide
        · have v1 : val (wd true 1) = -uv 1 := by rw [val_uv]; rfl
          rw [v1, val_uv, hs, h0, uv_z]
          have := uv_gap 0
          rw [uv_z] at this
          simp only [Bool.false_eq_true, if_false]
          grind
      · obtain ⟨k, hk⟩ : ∃ k, rg r = k + 1 := ⟨rg r - 1, by omega⟩
        refine ⟨wd false k, by unfold Fp.fin; rw [rg_wd (by omega)]; omega, ?_, ?_⟩
        · unfold ky key sn; rw [sg_wd (by omega), rg_wd (by omega), hs]; simp; omega
        · rw [val_uv, val_uv, sg_wd (by omega), rg_wd (by omega), hs, hk]
          have := uv_gap k
          have := uv_mono (show k ≤ k + 1 by omega)
          simp only [Bool.false_eq_true, if_false]
          grind
  obtain ⟨k1, f1, o1, d1⟩ := up
  obtain ⟨k2, f2, o2, d2⟩ := dn
  have u1 : q < val k1 := Rat.not_le.1 fun c => o1 (n.ge f1 c)
  have u2 : val k2 < q := Rat.not_le.1 fun c => o2 (n.le f2 c)
  constructor <;> grind
theorem uv_mag {l h x : Nat} (i : In l h x) : uv (rg x) ≤ mag l h := by
  have m := i.mag
  have e := val_uv x
  split at e <;> grind
/-- A quotient by an exact positive number. -/
def cDiv (lx hx y : Nat) (e : Rat) (lz hz : Nat) (g : Rat) : Bool := chkDiv lx hx y y lz hz && decide (ky hz < 9218868437227405311) && decide (-9218868437227405311 < ky lz) && decide (4503599627370496 * e + (mag lz hz + τ) * val y ≤ 4503599627370496 * g * val y)
theorem va_div {lx hx x y : Nat} {e q : Rat} (ax : Va lx hx e q x) (fy : Fp.fin y) {lz hz : Nat} {g : Rat} (c : cDiv lx hx y e lz hz g = true) : ∃ r, double.div x y = some r ∧ Va lz hz g (q / val y) r := by
  simp only [cDiv, Bool.and_eq_true, decide_eq_true_eq] at c
  obtain ⟨⟨⟨c1, c2⟩, c3⟩, c4⟩ := c
  obtain ⟨r, h, i, _⟩ := div_in ax.toIn (In.self fy) c1
  simp only [chkDiv, Bool.and_eq_true, decide_eq_true_eq] at c1
  obtain ⟨⟨⟨⟨⟨⟨-, -⟩, c0⟩, -⟩, -⟩, -⟩, -⟩ := c1
  have hp : 0 < val y := by
    refine Rat.lt_of_mul_lt_mul_right ?_ (Rat.le_of_lt cc_pos)
    rw [val_cc, Rat.zero_mul]; exact Rat.intCast_pos.2 c0
  have hne : rg y ≠ 0 := by
    intro h
    have : sv y = 0 := by unfold sv; rw [h]; unfold sn; split <;> rfl
    omega
  obtain ⟨r', h1, n, _⟩ := fdiv ax.fin fy hne
  rw [h] at h1; cases h1
  have hr : rg r < 9218868437227405311 := by
    have a1 := i.lo
    have a2 := i.hi
    have : ky r = if sg r then -(rg r : Int) else rg r := rfl
    split at this <;> omega
  obtain ⟨p1, p2⟩ := n.place hr
  have um := uv_mag i
  have t := tiny_τ
  have tp := tiny_pos
  have d1 : val x / val y * val y = val x := Rat.div_mul_cancel (by grind)
  have d2 : q / val y * val y = q := Rat.div_mul_cancel (by grind)
  have b1 := ax.e1
  have b2 := ax.e2
  -- times y
  have t1 := rmul_nn (y := val y) p1 (Rat.le_of_lt hp)
  have t2 := rmul_nn (y := val y) p2 (Rat.le_of_lt hp)
  have t3 := rmul_nn (a := uv (rg r) + 4503599627370496 * tiny) (x := mag lz hz + τ) (y := val y) (by grind) (Rat.le_of_lt hp)
  refine ⟨r, h, i, ?_, ?_⟩
  · refine Rat.le_of_mul_le_mul_right ?_ hp
    grind
  · refine Rat.le_of_mul_le_mul_right ?_ hp
    grind
/-! ### Polynomials -/
def ev : List Rat → Rat → Rat
  | [], _ => 0
  | c :: l, x => c + x * ev l x
def addL : List Rat → List Rat → List Rat
  | [], m => m
  | l, [] => l
  | a :: l, b :: m => (a + b) :: addL l m
theorem ev_addL (l m : List Rat) (x : Rat) : ev (addL l m) x = ev l x + ev m x := by
  induction l generalizing m with
  | nil => simp [addL, ev, Rat.zero_add]
  | cons a l ih =>
    cases m with
    | nil => simp [addL, ev, Rat.add_zero]
    | cons b m => simp only [addL, ev, ih]; grind
def mulC (a : Rat) : List Rat → List Rat
  | [] => []
  | c :: l => (a * c) :: mulC a l
theorem ev_mulC (a : Rat) (l : List Rat) (x : Rat) : ev (mulC a l) x = a * ev l x := by
  induction l with
  | nil => simp [mulC, ev, Rat.mul_zero]
  | cons c l ih => simp only [mulC, ev, ih]; grind
/-- The polynomial at 'x + a'. -/
def sh (a : Rat) : List Rat → List Rat
  | [] => []
  | c :: l => addL [c] (addL (0 :: sh a l) (mulC a (sh a l)))
theorem ev_sh (a : Rat) (l : List Rat) (x : Rat) : ev (sh a l) x = ev l (x + a) := by
  induction l with
  | nil => rfl
  | cons c l ih =>
    simp only [sh, ev_addL, ev_mulC, ev, ih]; grind
def ab (c : Rat) : Rat := if c < 0 then -c else c
def evA : List Rat → Rat → Rat
  | [], _ => 0
  | c :: l, d => ab c + d * evA l d
theorem evA_nn (l : List Rat) {d : Rat} (hd : 0 ≤ d) : 0 ≤ evA l d := by
  induction l with
  | nil => exact Rat.le_refl
  | cons c l ih =>
    have := Rat.mul_nonneg hd ih
    unfold evA ab; split <;> grind
theorem ev_le (l : List Rat) {x d : Rat} (h0 : 0 ≤ x) (h1 : x ≤ d) : ev l x ≤ evA l d ∧ -ev l x ≤ evA l d := by
  induction l with
  | nil => exact ⟨Rat.le_refl, by show -(0 : Rat) ≤ 0; decide⟩
  | cons c l ih =>
    have nn := evA_nn l (show 0 ≤ d by grind)
    have k1 := Rat.mul_le_mul_of_nonneg_left ih.1 h0
    have k2 := Rat.mul_le_mul_of_nonneg_left ih.2 h0
    have k3 := rmul_nn h1 nn
    unfold ev evA ab
    split <;> constructor <;> grind
/-- Bounded on n pieces of width d from a on. -/
def chkP (l : List Rat) (d b : Rat) : Nat → Rat → Bool
  | 0, _ => true
  | n + 1, a => decide (evA (sh a l) d ≤ b) && chkP l d b n (a + d)
theorem chkP_le {l : List Rat} {d b : Rat} (n : Nat) : ∀ {a x : Rat}, chkP l d b n a = true → a ≤ x → x ≤ a + n * d → 0 ≤ d → 0 ≤ b → n ≠ 0 → ev l x ≤ b ∧ -ev l x ≤ b := by
  induction n with
  | zero => intro a x _ _ _ _ _ h; exact absurd rfl h
  | succ n ih =>
    intro a x c h1 h2 hd hb _
    simp only [chkP, Bool.and_eq_true, decide_eq_true_eq] at c
    by_cases hx : x ≤ a + d
    · have k := ev_le (sh a l) (x := x - a) (d := d) (by grind) (by grind)
      rw [ev_sh, show x - a + a = x by grind] at k
      exact ⟨Rat.le_trans k.1 c.1, Rat.le_trans k.2 c.1⟩
    · by_cases hn : n = 0
      · subst hn
        exfalso; apply hx
        have : (((0 + 1 : Nat)) : Rat) = 1 := rfl
        rw [this] at h2; grind
      · refine ih c.2 (by grind) ?_ hd hb hn
        have : ((n + 1 : Nat) : Rat) = (n : Rat) + 1 := by push_cast; rfl
        rw [this] at h2; grind
end Go.Proofs.YtkdlfggghgchjaaDoor.Fp
