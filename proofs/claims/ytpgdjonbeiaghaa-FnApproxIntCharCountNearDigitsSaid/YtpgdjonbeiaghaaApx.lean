/-
  Contracts of math.Log10, Floor, Max at numbers from one to 2^54, and of approximatePrintedIntCharCount. No condition.
-/
import Derived.Test.YtpgdjonbeiaghaaLgx
import Derived.Test.YtpgdjonbeiaghaaFlo
import Derived.Test.YtpgdjonbeiaghaaInt32
namespace Go.Proofs.Ytpgdjonbeiaghaa
open Go.ChangeShapes Go.WideShapes Go.ChangeAt Go.RowKit
set_option linter.unusedVariables false
set_option exponentiation.threshold 2000

theorem finBig {q : Rat} {r : Nat} (n : Fp.Rnd q r) (h1 : -2000 ≤ q) (h2 : q ≤ 2000) : Fp.fin r := by
  have a1 : Fp.val 13879882945323335680 = -2000 := by decide +kernel
  have a2 : Fp.val 4656510908468559872 = 2000 := by decide +kernel
  exact (n.isIn (l := 13879882945323335680) (h := 4656510908468559872) (Fp.finB_fin (by decide)) (Fp.finB_fin (by decide)) (by rw [a1]; exact h1) (by rw [a2]; exact h2)).fin
theorem Uu_cc : (((Fp.Uu : Nat) : Int) : Rat) = Fp.cc := by unfold Fp.Uu Fp.cc; exact Fp.pow_cast 1074
theorem val_int {T : Nat} {m : Int} : (m : Rat) ≤ Fp.val T ↔ m * ((Fp.Uu : Nat) : Int) ≤ Fp.sv T := by
  constructor
  · intro h
    have h1 := Rat.mul_le_mul_of_nonneg_right h (Rat.le_of_lt Fp.cc_pos)
    rw [Fp.val_cc, ← Uu_cc, ← Rat.intCast_mul] at h1
    exact Rat.intCast_le_intCast.1 h1
  · intro h
    refine Rat.le_of_mul_le_mul_right ?_ Fp.cc_pos
    rw [Fp.val_cc, ← Uu_cc, ← Rat.intCast_mul]
    exact Rat.intCast_le_intCast.2 h
theorem val_int_lt {T : Nat} {m : Int} : Fp.val T < (m : Rat) ↔ Fp.sv T < m * ((Fp.Uu : Nat) : Int) := by
  rw [← Rat.not_le, ← Int.not_le, val_int]
/-- Log10 of a number, made whole, and the greater of that and zero. -/
def Tens (κ : Int) (m : Int) : Prop := m.natAbs ≤ 31 ∧ 1000000 * m ≤ 301036 * (κ + 1) + 1000 ∧ 301022 * κ - 44000 < 1000000 * (m + 1)
theorem tens (E M : Nat) (h1 : 1023 ≤ E) (h2 : E ≤ 1076) (hM : M < 4503599627370496) :
    ∃ (L T F : Nat) (m : Int), Extern.MathLog.archLog #[.float .f64 (E * 4503599627370496 + M)] = pure (.float .f64 L) ∧ Ieee.double.mul L 4601495173785380110 = some T ∧ ¬ Fp.nan T ∧
      Ieee.double.write ((Ieee.double.read T).integral .down) = F ∧ ¬ Fp.nan F ∧ Fp.maxW 0 F = Fp.iw (if 0 < m then m else 0) ∧ Tens ((E : Int) - 1023) m := by
  have hL : ∃ L, Extern.MathLog.archLog #[.float .f64 (E * 4503599627370496 + M)] = pure (.float .f64 L) ∧ Fp.fin L ∧ (((E : Int) - 1023 : Int) : Rat) * (69314 / 100000) - 1 / 10 ≤ Fp.val L ∧ Fp.val L ≤ (((E : Int) - 1022 : Int) : Rat) * (69315 / 100000) + 1 / 1000 := by
    by_cases hs : 4604544271217802189 < 1022 * 4503599627370496 + M
    · exact lgUp E M h1 h2 hM hs
    · exact lgDown E M h1 h2 hM (by omega)
  obtain ⟨L, e1, fL, b1, b2⟩ := hL
  obtain ⟨T, e2, n⟩ := Fp.fmul fL (Fp.finB_fin (show Fp.finB 4601495173785380110 = true by decide))
  have c1 : (43429 / 100000 : Rat) ≤ Fp.val 4601495173785380110 := by decide +kernel
  have c2 : Fp.val 4601495173785380110 ≤ (43430 / 100000 : Rat) := by decide +kernel
  have k0 : (0 : Rat) ≤ (((E : Int) - 1023 : Int) : Rat) := Rat.intCast_nonneg.2 (by omega)
  have k1 : (((E : Int) - 1023 : Int) : Rat) ≤ 53 := by
    have := Rat.intCast_le_intCast.2 (show (E : Int) - 1023 ≤ 53 by omega)
    exact this
  have k2 : (((E : Int) - 1022 : Int) : Rat) = (((E : Int) - 1023 : Int) : Rat) + 1 := by
    rw [show (E : Int) - 1022 = ((E : Int) - 1023) + 1 by omega, Rat.intCast_add]; rfl
  rw [k2] at b2
  obtain ⟨κ, hκ⟩ : ∃ κ : Int, κ = (E : Int) - 1023 := ⟨_, rfl⟩
  rw [← hκ] at b1 b2 k0 k1 ⊢
  generalize Fp.val 4601495173785380110 = c at *
  generalize hv : Fp.val L = v at *
  -- the product's bounds
  have q1 : v * c ≤ ((κ : Rat) * (69315 / 100000) + 69415 / 100000) * (43430 / 100000) := by
    have p1 := Fp.rmul_nn (a := v) (x := (κ : Rat) * (69315 / 100000) + 69415 / 100000) (y := c) (by grind) (by grind)
    have p2 := Fp.rmul_nn (a := c) (x := 43430 / 100000) (y := (κ : Rat) * (69315 / 100000) + 69415 / 100000) c2 (by grind)
    grind
  have q2 : ((κ : Rat) * (69314 / 100000)) * (43429 / 100000) - 43430 / 1000000 ≤ v * c := by
    have p1 := Fp.rmul_nn (a := (κ : Rat) * (69314 / 100000) - 1 / 10) (x := v) (y := c) b1 (by grind)
    have p2 := Fp.rmul_nn (a := 43429 / 100000) (x := c) (y := (κ : Rat) * (69314 / 100000)) c1 (by grind)
    grind
  have fT : Fp.fin T := finBig n.toRnd (by grind) (by grind)
  obtain ⟨r1, r2⟩ := n.err fT 2000 (by grind) (by grind)
  have ht := Fp.tiny_pos
  have ht2 := tiny_small
  have t1 : Fp.val T ≤ v * c + 1 / 1000000000 := by grind
  have t2 : v * c - 1 / 1000000000 ≤ Fp.val T := by grind
  have hN : Fp.N (Fp.rg T) ≤ 30 * Fp.Uu := by
    have s1 := (val_int (T := T) (m := -30)).1 (by have : ((-30 : Int) : Rat) = -30 := rfl; rw [this]; grind)
    have s2 := (val_int_lt (T := T) (m := 30)).1 (by have : ((30 : Int) : Rat) = 30 := rfl; rw [this]; grind)
    unfold Fp.sv Fp.sn at s1 s2
    generalize Fp.Uu = U at *
    cases hs : Fp.sg T <;> simp only [hs, if_true, if_false, Bool.false_eq_true] at s1 s2 <;> omega
  obtain ⟨F, m, f1, f2, f3, f4, f5, f6⟩ := Fp.max_floor (B := 30) fT (by omega) hN
  refine ⟨L, T, F, m, e1, e2, n.nn, f1, f5, f6, f2, ?_, ?_⟩
  · have g := val_int.2 f3
    have g2 : ((1000000 * m : Int) : Rat) ≤ ((301036 * (κ + 1) + 1000 : Int) : Rat) := by
      rw [Rat.intCast_mul, Rat.intCast_add, Rat.intCast_mul, Rat.intCast_add]
      have z1 : ((1000000 : Int) : Rat) = 1000000 := rfl
      have z2 : ((301036 : Int) : Rat) = 301036 := rfl
      have z3 : ((1000 : Int) : Rat) = 1000 := rfl
      have z4 : ((1 : Int) : Rat) = 1 := rfl
      rw [z1, z2, z3, z4]; grind
    exact Rat.intCast_le_intCast.1 g2
  · have g := val_int_lt.2 f4
    have g2 : ((301022 * κ - 44000 : Int) : Rat) < ((1000000 * (m + 1) : Int) : Rat) := by
      rw [Rat.intCast_mul, Rat.intCast_sub, Rat.intCast_mul]
      have z1 : ((1000000 : Int) : Rat) = 1000000 := rfl
      have z2 : ((301022 : Int) : Rat) = 301022 := rfl
      have z3 : ((44000 : Int) : Rat) = 44000 := rfl
      rw [z1, z2, z3]; grind
    exact Rat.intCast_lt_intCast.1 g2

/-! ### The functions -/
theorem x_log (x L : Nat) (h : Extern.MathLog.archLog #[.float .f64 x] = pure (.float .f64 L)) (W : World) : (callFunc 42 #[.float .f64 x]).run Try.prog W = .ok (.value (.float .f64 L)) W := by
  rw [run_callFunc_extern (e := Extern.MathLog.archLog) Try.func42 (by kernel_rfl) (by kernel_rfl) (by kernel_rfl) (by kernel_rfl), h]
  rfl
theorem x_max (x y : Nat) (W : World) : (callFunc 26 #[.float .f64 x, .float .f64 y]).run Try.prog W = .ok (.value (.float .f64 (Fp.maxW x y))) W := by
  rw [run_callFunc_extern (e := Extern.MathDim.pick "math.archMax" false .gt) Try.func26 (by kernel_rfl) (by kernel_rfl) (by kernel_rfl) (by kernel_rfl)]
  rfl
/-- The entry that makes a float whole, at a float. -/
def wholeOf (what : String) (way : Ieee.Toward) (x : Nat) : Sem Value :=
  match Ieee.double.read x with
  | .nan s t =>
    if FloatKind.f64.format.quiet t = t then pure (.float .f64 x) else do
    let kept ← choose (.extern what 2)
    pure (.float .f64 (if kept == 1 then x else FloatKind.f64.encode (.nan s (FloatKind.f64.format.quiet t))))
  | d => pure (.float .f64 (FloatKind.f64.encode (d.integral way)))
theorem wholeOf_eq (nm : String) (way : Ieee.Toward) (x : Nat) : ∃ what, Extern.MathFloor.toIntegral nm way #[.float .f64 x] = wholeOf what way x := ⟨_, rfl⟩
theorem x_floor {x : Nat} (h : ¬ Fp.nan x) (W : World) : (callFunc 28 #[.float .f64 x]).run Try.prog W = .ok (.value (.float .f64 (Ieee.double.write ((Ieee.double.read x).integral .down)))) W := by
  rw [run_callFunc_extern (e := Extern.MathFloor.toIntegral "math.archFloor" .down) Try.func28 (by kernel_rfl) (by kernel_rfl) (by kernel_rfl) (by kernel_rfl)]
  have h2 : (Ieee.double.read x).isNaN = false := by
    cases hd : (Ieee.double.read x).isNaN
    · rfl
    · exact absurd ((Fp.isNaN_iff x).1 hd) h
  obtain ⟨what, hw⟩ := wholeOf_eq _ _ x
  rw [hw]; unfold wholeOf
  cases hd : Ieee.double.read x with
  | nan s t => rw [hd] at h2; simp [Ieee.Datum.isNaN] at h2
  | number s m p => rfl
  | infinity s => rfl
theorem log22 (x L T : Nat) (h : Extern.MathLog.archLog #[.float .f64 x] = pure (.float .f64 L)) (h2 : Ieee.double.mul L 4601495173785380110 = some T) (w : World) : Calls Try.prog 22 #[.float .f64 x] w fun e w' => e = .returned (.float .f64 T) ∧ w = w' := by
  have hx := fun W => x_log x L h W
  have hm := fun (t : TypeId) (W : World) => run_float_arith (P := Try.prog) W .mul t .f64 _ _ _ (show floatBits .mul .f64 L 4601495173785380110 = some T from h2)
  clear h h2
  go_enter Try.func22, Try.ntmps22
  go_wp2_with (first | (go_at_call 31; go_enter Try.func31, Try.ntmps31) | (go_at_call 38; go_enter Try.func38, Try.ntmps38) | go_in)
  all_goals (repeat go_ret)
  all_goals exact ⟨rfl, rfl⟩
end Go.Proofs.Ytpgdjonbeiaghaa
