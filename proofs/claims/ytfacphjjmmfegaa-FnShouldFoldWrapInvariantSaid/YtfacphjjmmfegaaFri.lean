/-
  Intervals of float64 words: + - * / of words between words. No condition. (My own helper text, one copy a seat.)
-/
import Derived.Test.YtfacphjjmmfegaaFra
namespace Go.Proofs.Ytfacphjjmmfegaa.Fp
open Ieee

/-- A finite word between two words. -/
structure In (l h x : Nat) : Prop where
  fin : fin x
  lo : ky l ≤ ky x
  hi : ky x ≤ ky h
theorem In.vlo {l h x : Nat} (i : In l h x) : val l ≤ val x := val_ky.2 i.lo
theorem In.vhi {l h x : Nat} (i : In l h x) : val x ≤ val h := val_ky.2 i.hi
theorem In.wide {l h l' h' x : Nat} (i : In l h x) (c : ky l' ≤ ky l ∧ ky h ≤ ky h') : In l' h' x := ⟨i.fin, Int.le_trans c.1 i.lo, Int.le_trans i.hi c.2⟩
theorem In.self {x : Nat} (h : Fp.fin x) : In x x x := ⟨h, Int.le_refl _, Int.le_refl _⟩
theorem fin_of_ky {l h x : Nat} (hl : Fp.fin l) (hh : Fp.fin h) (lo : ky l ≤ ky x) (hi : ky x ≤ ky h) : Fp.fin x := by
  unfold Fp.fin at *
  unfold ky key sn at *
  have := rg_lt x
  split at lo <;> split at hi <;> split at lo <;> simp_all <;> omega
theorem Rnd.isIn {q : Rat} {r l h : Nat} (n : Rnd q r) (hl : Fp.fin l) (hh : Fp.fin h) (h1 : val l ≤ q) (h2 : q ≤ val h) : In l h r :=
  ⟨fin_of_ky hl hh (n.ge hl h1) (n.le hh h2), n.ge hl h1, n.le hh h2⟩
def finB (x : Nat) : Bool := decide (rg x < 9218868437227405312)
theorem finB_fin {x : Nat} (h : finB x = true) : Fp.fin x := of_decide_eq_true h
/-- The unit, as an integer. -/
def CC : Int := 2 ^ 1074
set_option exponentiation.threshold 2000 in
theorem CC_cc : ((CC : Int) : Rat) = cc := by
  have := pow_cast 1074
  unfold cc CC
  rw [← this]; congr 1
theorem rmul_nn {a x y : Rat} (h : a ≤ x) (hy : 0 ≤ y) : a * y ≤ x * y := Rat.mul_le_mul_of_nonneg_right h hy
theorem rmul_np {x b y : Rat} (h : x ≤ b) (hy : y ≤ 0) : b * y ≤ x * y := by
  have := Rat.mul_le_mul_of_nonneg_right (c := -y) h (by grind)
  grind
theorem corner_lo {a b c d x y m : Rat} (h1 : a ≤ x) (h2 : x ≤ b) (h3 : c ≤ y) (h4 : y ≤ d) (m1 : m ≤ a * c) (m2 : m ≤ a * d) (m3 : m ≤ b * c) (m4 : m ≤ b * d) : m ≤ x * y := by
  by_cases hy : 0 ≤ y
  · have k1 := rmul_nn h1 hy
    by_cases ha : 0 ≤ a
    · have := rmul_nn h3 ha; grind
    · have := rmul_np h4 (show a ≤ 0 by grind); grind
  · have k1 := rmul_np h2 (show y ≤ 0 by grind)
    by_cases hb : 0 ≤ b
    · have := rmul_nn h3 hb; grind
    · have := rmul_np h4 (show b ≤ 0 by grind); grind
theorem corner_hi {a b c d x y m : Rat} (h1 : a ≤ x) (h2 : x ≤ b) (h3 : c ≤ y) (h4 : y ≤ d) (m1 : a * c ≤ m) (m2 : a * d ≤ m) (m3 : b * c ≤ m) (m4 : b * d ≤ m) : x * y ≤ m := by
  have := corner_lo (a := -b) (b := -a) (c := c) (d := d) (x := -x) (y := y) (m := -m) (by grind) (by grind) h3 h4 (by grind) (by grind) (by grind) (by grind)
  grind
theorem sum_le {a b c : Nat} (h : sv a ≤ sv b + sv c) : val a ≤ val b + val c := by
  refine Rat.le_of_mul_le_mul_right ?_ cc_pos
  rw [Rat.add_mul, val_cc, val_cc, val_cc, ← Rat.intCast_add]
  exact Rat.intCast_le_intCast.2 h
theorem le_sum {a b c : Nat} (h : sv b + sv c ≤ sv a) : val b + val c ≤ val a := by
  refine Rat.le_of_mul_le_mul_right ?_ cc_pos
  rw [Rat.add_mul, val_cc, val_cc, val_cc, ← Rat.intCast_add]
  exact Rat.intCast_le_intCast.2 h
theorem cc2 (x y : Nat) : val x * val y * cc * cc = ((sv x * sv y : Int) : Rat) := by
  rw [Rat.intCast_mul, ← val_cc, ← val_cc]; grind
theorem cc1 (x : Nat) : val x * cc * cc = ((sv x * CC : Int) : Rat) := by
  rw [Rat.intCast_mul, ← val_cc, CC_cc]
theorem le_prod {a b c : Nat} (h : sv a * CC ≤ sv b * sv c) : val a ≤ val b * val c := by
  refine Rat.le_of_mul_le_mul_right ?_ cc_pos
  refine Rat.le_of_mul_le_mul_right ?_ cc_pos
  rw [cc2, cc1]
  exact Rat.intCast_le_intCast.2 h
theorem prod_le {a b c : Nat} (h : sv b * sv c ≤ sv a * CC) : val b * val c ≤ val a := by
  refine Rat.le_of_mul_le_mul_right ?_ cc_pos
  refine Rat.le_of_mul_le_mul_right ?_ cc_pos
  rw [cc2, cc1]
  exact Rat.intCast_le_intCast.2 h
section
variable {lx hx ly hy x y : Nat}
def chkAdd (lx hx ly hy lz hz : Nat) : Bool := finB lz && finB hz && decide (sv lz ≤ sv lx + sv ly) && decide (sv hx + sv hy ≤ sv hz)
theorem add_in (ix : In lx hx x) (iy : In ly hy y) {lz hz : Nat} (c : chkAdd lx hx ly hy lz hz = true) : ∃ r, double.add x y = some r ∧ In lz hz r := by
  simp only [chkAdd, Bool.and_eq_true, decide_eq_true_eq] at c
  obtain ⟨⟨⟨c1, c2⟩, c3⟩, c4⟩ := c
  obtain ⟨r, h1, h2⟩ := fadd ix.fin iy.fin
  have e1 := sum_le c3
  have e2 := le_sum c4
  have := ix.vlo; have := ix.vhi; have := iy.vlo; have := iy.vhi
  exact ⟨r, h1, h2.toRnd.isIn (finB_fin c1) (finB_fin c2) (by grind) (by grind)⟩
def chkSub (lx hx ly hy lz hz : Nat) : Bool := finB lz && finB hz && decide (sv lz + sv hy ≤ sv lx) && decide (sv hx ≤ sv hz + sv ly)
theorem sub_in (ix : In lx hx x) (iy : In ly hy y) {lz hz : Nat} (c : chkSub lx hx ly hy lz hz = true) : ∃ r, double.sub x y = some r ∧ In lz hz r := by
  simp only [chkSub, Bool.and_eq_true, decide_eq_true_eq] at c
  obtain ⟨⟨⟨c1, c2⟩, c3⟩, c4⟩ := c
  obtain ⟨r, h1, h2⟩ := fsub ix.fin iy.fin
  have e1 := le_sum c3
  have e2 := sum_le c4
  have := ix.vlo; have := ix.vhi; have := iy.vlo; have := iy.vhi
  exact ⟨r, h1, h2.toRnd.isIn (finB_fin c1) (finB_fin c2) (by grind) (by grind)⟩
def chkMul (lx hx ly hy lz hz : Nat) : Bool := finB lz && finB hz &&
  decide (sv lz * CC ≤ sv lx * sv ly) && decide (sv lz * CC ≤ sv lx * sv hy) && decide (sv lz * CC ≤ sv hx * sv ly) && decide (sv lz * CC ≤ sv hx * sv hy) &&
  decide (sv lx * sv ly ≤ sv hz * CC) && decide (sv lx * sv hy ≤ sv hz * CC) && decide (sv hx * sv ly ≤ sv hz * CC) && decide (sv hx * sv hy ≤ sv hz * CC)
theorem mul_in (ix : In lx hx x) (iy : In ly hy y) {lz hz : Nat} (c : chkMul lx hx ly hy lz hz = true) : ∃ r, double.mul x y = some r ∧ In lz hz r := by
  simp only [chkMul, Bool.and_eq_true, decide_eq_true_eq] at c
  obtain ⟨⟨⟨⟨⟨⟨⟨⟨⟨c1, c2⟩, a1⟩, a2⟩, a3⟩, a4⟩, b1⟩, b2⟩, b3⟩, b4⟩ := c
  obtain ⟨r, h1, h2⟩ := fmul ix.fin iy.fin
  exact ⟨r, h1, h2.toRnd.isIn (finB_fin c1) (finB_fin c2)
    (corner_lo ix.vlo ix.vhi iy.vlo iy.vhi (le_prod a1) (le_prod a2) (le_prod a3) (le_prod a4))
    (corner_hi ix.vlo ix.vhi iy.vlo iy.vhi (prod_le b1) (prod_le b2) (prod_le b3) (prod_le b4))⟩
def chkDiv (lx hx ly hy lz hz : Nat) : Bool := finB lz && finB hz && decide (0 < sv ly) &&
  decide (sv lz * sv ly ≤ sv lx * CC) && decide (sv lz * sv hy ≤ sv lx * CC) && decide (sv hx * CC ≤ sv hz * sv ly) && decide (sv hx * CC ≤ sv hz * sv hy)
theorem lin_hi {m y c d a : Rat} (h3 : c ≤ y) (h4 : y ≤ d) (m1 : m * c ≤ a) (m2 : m * d ≤ a) : m * y ≤ a := by
  by_cases hm : 0 ≤ m
  · have := rmul_nn h4 hm; grind
  · have := rmul_np h3 (show m ≤ 0 by grind); grind
theorem lin_lo {m y c d a : Rat} (h3 : c ≤ y) (h4 : y ≤ d) (m1 : a ≤ m * c) (m2 : a ≤ m * d) : a ≤ m * y := by
  by_cases hm : 0 ≤ m
  · have := rmul_nn h3 hm; grind
  · have := rmul_np h4 (show m ≤ 0 by grind); grind
theorem div_in (ix : In lx hx x) (iy : In ly hy y) {lz hz : Nat} (c : chkDiv lx hx ly hy lz hz = true) : ∃ r, double.div x y = some r ∧ In lz hz r ∧ sg r = (sg x ^^ sg y) := by
  simp only [chkDiv, Bool.and_eq_true, decide_eq_true_eq] at c
  obtain ⟨⟨⟨⟨⟨⟨c1, c2⟩, c0⟩, a1⟩, a2⟩, b1⟩, b2⟩ := c
  have hp : 0 < val y := by
    have h0 : (0 : Rat) < val ly := by
      refine Rat.lt_of_mul_lt_mul_right ?_ (Rat.le_of_lt cc_pos)
      rw [val_cc, Rat.zero_mul]; exact Rat.intCast_pos.2 c0
    have := iy.vlo; grind
  have hne : rg y ≠ 0 := by
    intro h
    have : sv y = 0 := by unfold sv; rw [h]; unfold sn; split <;> rfl
    have e : val y = 0 := by unfold val; rw [this]; simp [Rat.div_def]
    rw [e] at hp; exact absurd hp (by decide)
  obtain ⟨r, h1, h2, h3⟩ := fdiv ix.fin iy.fin hne
  refine ⟨r, h1, h2.isIn (finB_fin c1) (finB_fin c2) ?_ ?_, h3⟩
  · have k := lin_hi iy.vlo iy.vhi (prod_le a1) (prod_le a2)
    have := ix.vlo
    refine Rat.le_of_mul_le_mul_right ?_ hp
    rw [Rat.div_mul_cancel (by grind)]
    grind
  · have k := lin_lo iy.vlo iy.vhi (le_prod b1) (le_prod b2)
    have := ix.vhi
    refine Rat.le_of_mul_le_mul_right ?_ hp
    rw [Rat.div_mul_cancel (by grind)]
    grind
theorem add_near {r : Nat} (ix : In lx hx x) (iy : In ly hy y) (h : double.add x y = some r) : Near (val x + val y) r := by
  obtain ⟨r', h1, h2⟩ := fadd ix.fin iy.fin
  rw [h] at h1; cases h1; exact h2
theorem sub_near {r : Nat} (ix : In lx hx x) (iy : In ly hy y) (h : double.sub x y = some r) : Near (val x - val y) r := by
  obtain ⟨r', h1, h2⟩ := fsub ix.fin iy.fin
  rw [h] at h1; cases h1; exact h2
theorem mul_near {r : Nat} (ix : In lx hx x) (iy : In ly hy y) (h : double.mul x y = some r) : Near (val x * val y) r := by
  obtain ⟨r', h1, h2⟩ := fmul ix.fin iy.fin
  rw [h] at h1; cases h1; exact h2
end
end Go.Proofs.Ytfacphjjmmfegaa.Fp
