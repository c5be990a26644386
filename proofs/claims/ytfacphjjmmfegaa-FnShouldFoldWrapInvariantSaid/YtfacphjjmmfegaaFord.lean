/-
  Order facts of float64 words in the walk's own spelling. No condition. (My own helper text, one copy a seat.)
-/
import Derived.Test.YtfacphjjmmfegaaFlt
import Derived.Test.YtfacphjjmmfegaaFp
namespace Go.Proofs.Ytfacphjjmmfegaa
open Go.ChangeShapes Go.WideShapes Go.ChangeAt Go.RowKit
theorem ord_refl {x : Nat} (h : ¬ Fp.nan x) : FloatKind.f64.format.order x x = some .eq := by
  rw [show FloatKind.f64.format = Ieee.double from rfl, Fp.order_words h h]; simp
theorem ord_zero {x : Nat} (h : ¬ Fp.nan x) (h0 : ¬ Fp.rg x = 0) : (FloatKind.f64.format.order x 0 == some .eq) = false := by
  rw [show FloatKind.f64.format = Ieee.double from rfl, Fp.order_words h (by decide)]
  have : Fp.ky x ≠ Fp.ky 0 := by
    have e : Fp.ky 0 = 0 := by decide
    rw [e]; unfold Fp.ky Fp.key Fp.sn; split <;> omega
  rcases Int.lt_trichotomy (Fp.ky x) (Fp.ky 0) with h | h | h
  · rw [Int.compare_eq_lt.2 h]; rfl
  · exact absurd h this
  · rw [Int.compare_eq_gt.2 h]; rfl
theorem ord_zero' {x : Nat} (h0 : Fp.rg x = 0) : (FloatKind.f64.format.order x 0 == some .eq) = true := by
  have h : ¬ Fp.nan x := by unfold Fp.nan; omega
  rw [show FloatKind.f64.format = Ieee.double from rfl, Fp.order_words h (by decide)]
  have : Fp.ky x = Fp.ky 0 := by
    have e : Fp.ky 0 = 0 := by decide
    rw [e]; unfold Fp.ky Fp.key Fp.sn; rw [h0]; split <;> rfl
  rw [this]; simp
theorem inf_not_nan (s : Bool) : ¬ Fp.nan (Fp.wd s 9218868437227405312) := by cases s <;> decide
theorem iw_not_nan (n : Int) : ¬ Fp.nan (floatOfInt .f64 n) := Fp.write_not_nan (d := .number (n < 0) n.natAbs 0) rfl
theorem isNan_nan {x : Nat} (h : IsNan x) : Fp.nan x := by
  obtain ⟨s, f, e⟩ := h
  unfold rd at e
  rw [Fp.read_eq] at e
  false_or_by_contra
  rename_i hn
  unfold Fp.nan at hn
  unfold Fp.dec at e
  split at e
  · cases e
  · split at e
    · cases e
    · rw [if_pos (by omega)] at e; cases e
theorem ord_nan {x y : Nat} (h : Fp.nan x ∨ Fp.nan y) : FloatKind.f64.format.order x y = none := Fp.order_nan h
theorem i64_range {a : Int} (h : (Lit.int .i64 a).wf = true) : -9223372036854775808 ≤ a ∧ a ≤ 9223372036854775807 := by
  simpa [Lit.wf, IntKind.min, IntKind.max, IntKind.signed, IntKind.bits] using h
theorem u32_range {a : Int} (h : (Lit.int .u32 a).wf = true) : 0 ≤ a ∧ a < 4294967296 := by
  have : 0 ≤ a ∧ a ≤ 4294967295 := by simpa [Lit.wf, IntKind.min, IntKind.max, IntKind.signed, IntKind.bits] using h
  omega
theorem f64_range {a : Nat} (h : (Lit.float .f64 a).wf = true) : a < 18446744073709551616 := by simpa [Lit.wf] using h

/-! ### The six comparisons -/
theorem cmp_eq {a b : Int} : (some (compare a b) == some Ordering.eq) = decide (a = b) := by
  rcases Int.lt_trichotomy a b with h | h | h
  · rw [Int.compare_eq_lt.2 h]; simp; omega
  · subst h; simp
  · rw [Int.compare_eq_gt.2 h]; simp; omega
theorem cmp_lt {a b : Int} : (some (compare a b) == some Ordering.lt) = decide (a < b) := by
  rcases Int.lt_trichotomy a b with h | h | h
  · rw [Int.compare_eq_lt.2 h]; simp [h]
  · subst h; simp
  · rw [Int.compare_eq_gt.2 h]; simp; omega
theorem cmp_gt {a b : Int} : (some (compare a b) == some Ordering.gt) = decide (b < a) := by
  rcases Int.lt_trichotomy a b with h | h | h
  · rw [Int.compare_eq_lt.2 h]; simp; omega
  · subst h; simp
  · rw [Int.compare_eq_gt.2 h]; simp [h]
section
variable {x y : Nat}
theorem f_eq (hx : ¬ Fp.nan x) (hy : ¬ Fp.nan y) : (FloatKind.f64.format.order x y == some .eq) = decide (Fp.ky x = Fp.ky y) := by
  rw [show FloatKind.f64.format.order x y = some (compare (Fp.ky x) (Fp.ky y)) from Fp.order_words hx hy, cmp_eq]
theorem f_ne (hx : ¬ Fp.nan x) (hy : ¬ Fp.nan y) : (FloatKind.f64.format.order x y != some .eq) = decide (Fp.ky x ≠ Fp.ky y) := by
  unfold bne; rw [f_eq hx hy]; simp
theorem f_lt (hx : ¬ Fp.nan x) (hy : ¬ Fp.nan y) : (FloatKind.f64.format.order x y == some .lt) = decide (Fp.ky x < Fp.ky y) := by
  rw [show FloatKind.f64.format.order x y = some (compare (Fp.ky x) (Fp.ky y)) from Fp.order_words hx hy, cmp_lt]
theorem f_gt (hx : ¬ Fp.nan x) (hy : ¬ Fp.nan y) : (FloatKind.f64.format.order x y == some .gt) = decide (Fp.ky y < Fp.ky x) := by
  rw [show FloatKind.f64.format.order x y = some (compare (Fp.ky x) (Fp.ky y)) from Fp.order_words hx hy, cmp_gt]
theorem n_eq (h : Fp.nan x ∨ Fp.nan y) : (FloatKind.f64.format.order x y == some .eq) = false := by rw [ord_nan h]; rfl
theorem n_ne (h : Fp.nan x ∨ Fp.nan y) : (FloatKind.f64.format.order x y != some .eq) = true := by rw [ord_nan h]; rfl
theorem n_lt (h : Fp.nan x ∨ Fp.nan y) : (FloatKind.f64.format.order x y == some .lt) = false := by rw [ord_nan h]; rfl
theorem n_gt (h : Fp.nan x ∨ Fp.nan y) : (FloatKind.f64.format.order x y == some .gt) = false := by rw [ord_nan h]; rfl
theorem s_ne (h : ¬ Fp.nan x) : (FloatKind.f64.format.order x x != some .eq) = false := by rw [f_ne h h]; simp
end
theorem zero_nn : ¬ Fp.nan 0 := by decide
theorem ky_zero : Fp.ky 0 = 0 := by decide
theorem ky_wd {s : Bool} {r : Nat} (h : r < 9223372036854775808) : Fp.ky (Fp.wd s r) = if s then -(r : Int) else r := by
  unfold Fp.ky; rw [Fp.sg_wd h, Fp.rg_wd h]; rfl
theorem ky_val (x : Nat) : Fp.ky x = if Fp.sg x then -(Fp.rg x : Int) else Fp.rg x := rfl
theorem nan_wd {s : Bool} {r : Nat} (h : r ≤ 9218868437227405312) : ¬ Fp.nan (Fp.wd s r) := by unfold Fp.nan; rw [Fp.rg_wd (by omega)]; omega
theorem neg_eq (x : Nat) : Op.negFloat .f64 x = x ^^^ 9223372036854775808 := rfl
theorem nan_neg {x : Nat} (h : Fp.nan x) : Fp.nan (Op.negFloat .f64 x) := by
  rw [neg_eq]; unfold Fp.nan Fp.rg at *
  have : (x ^^^ 9223372036854775808) % 2 ^ 63 = x % 2 ^ 63 := by
    rw [Nat.xor_mod_two_pow, show 9223372036854775808 % 2 ^ 63 = 0 from rfl, Nat.xor_zero]
  rw [show (9223372036854775808 : Nat) = 2 ^ 63 from rfl] at *
  rw [this]; exact h
end Go.Proofs.Ytfacphjjmmfegaa
