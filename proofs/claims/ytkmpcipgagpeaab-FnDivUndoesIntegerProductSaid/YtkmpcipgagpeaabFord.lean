/-
  Order facts of float64 words in the walk's own spelling. No condition. (My own helper text, one copy a seat.)
-/
import Derived.Test.YtkmpcipgagpeaabFlt
import Derived.Test.YtkmpcipgagpeaabFp
namespace Go.Proofs.Ytkmpcipgagpeaab
open Go.ChangeShapes Go.WideShapes Go.ChangeAt Go.RowKit
theorem ord_refl {x : Nat} (h : ¬ Fp.nan x) : FloatKind.f64.format.order x x = some .eq := by
  rw [show FloatKind.f64.format = Ieee.double from rfl, Fp.order_words h h]; simp
theorem ord_zero {x : Nat} (h : ¬ Fp.nan x) (h0 : ¬ Fp.rg x = 0) : (FloatKind.f64.format.order x 0 == some .eq) = false := by
  rw [show FloatKind.f64.format = Ieee.double from rfl, Fp.order_words h (by decide)]
  have : Fp.ky x ≠ Fp.ky 0 := by
    have e : Fp.ky 0 = 0 := by decide
    rw [e]; unfold Fp.ky Fp.key Fp.sn; split <;> omega
  rcases Int.lt_trichotomy (Fp.ky x) (Fp.ky 0) with h | h | h
  · rw [Int.compare_eq_lt.2 h]; rfl
  · exact absurd h this
  · rw [Int.compare_eq_gt.2 h]; rfl
theorem ord_zero' {x : Nat} (h0 : Fp.rg x = 0) : (FloatKind.f64.format.order x 0 == some .eq) = true := by
  have h : ¬ Fp.nan x := by unfold Fp.nan; omega
  rw [show FloatKind.f64.format = Ieee.double from rfl, Fp.order_words h (by decide)]
  have : Fp.ky x = Fp.ky 0 := by
    have e : Fp.ky 0 = 0 := by decide
    rw [e]; unfold Fp.ky Fp.key Fp.sn; rw [h0]; split <;> rfl
  rw [this]; simp
theorem inf_not_nan (s : Bool) : ¬ Fp.nan (Fp.wd s 9218868437227405312) := by cases s <;> decide
theorem iw_not_nan (n : Int) : ¬ Fp.nan (floatOfInt .f64 n) := Fp.write_not_nan (d := .number (n < 0) n.natAbs 0) rfl
theorem isNan_nan {x : Nat} (h : IsNan x) : Fp.nan x := by
  obtain ⟨s, f, e⟩ := h
  unfold rd at e
  rw [Fp.read_eq] at e
  false_or_by_contra
  rename_i hn
  unfold Fp.nan at hn
  unfold Fp.dec at e
  split at e
  · cases e
  · split at e
    · cases e
    · rw [if_pos (by omega)] at e; cases e
theorem ord_nan {x y : Nat} (h : Fp.nan x ∨ Fp.nan y) : FloatKind.f64.format.order x y = none := Fp.order_nan h
theorem i64_range {a : Int} (h : (Lit.int .i64 a).wf = true) : -9223372036854775808 ≤ a ∧ a ≤ 9223372036854775807 := by
  simpa [Lit.wf, IntKind.min, IntKind.max, IntKind.signed, IntKind.bits] using h
theorem u32_range {a : Int} (h : (Lit.int .u32 a).wf = true) : 0 ≤ a ∧ a < 4294967296 := by
  have : 0 ≤ a ∧ a ≤ 4294967295 := by simpa [Lit.wf, IntKind.min, IntKind.max, IntKind.signed, IntKind.bits] using h
  omega
theorem f64_range {a : Nat} (h : (Lit.float .f64 a).wf = true) : a < 18446744073709551616 := by simpa [Lit.wf] using h
end Go.Proofs.Ytkmpcipgagpeaab
