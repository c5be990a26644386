/-
  The contract of approximatePrintedIntCharCount at every finite number. No condition.
-/
import Derived.Test.YtfacphjjmmfegaaLga
import Derived.Test.YtfacphjjmmfegaaFlo
import Derived.Test.YtfacphjjmmfegaaInt32
namespace Go.Proofs.Ytfacphjjmmfegaa
open Go.ChangeShapes Go.WideShapes Go.ChangeAt Go.RowKit
set_option linter.unusedVariables false
set_option exponentiation.threshold 2000

theorem Uu_cc : (((Fp.Uu : Nat) : Int) : Rat) = Fp.cc := by unfold Fp.Uu Fp.cc; exact Fp.pow_cast 1074
theorem val_int {T : Nat} {m : Int} : (m : Rat) ≤ Fp.val T ↔ m * ((Fp.Uu : Nat) : Int) ≤ Fp.sv T := by
  constructor
  · intro h
    have h1 := Rat.mul_le_mul_of_nonneg_right h (Rat.le_of_lt Fp.cc_pos)
    rw [Fp.val_cc, ← Uu_cc, ← Rat.intCast_mul] at h1
    exact Rat.intCast_le_intCast.1 h1
  · intro h
    refine Rat.le_of_mul_le_mul_right ?_ Fp.cc_pos
    rw [Fp.val_cc, ← Uu_cc, ← Rat.intCast_mul]
    exact Rat.intCast_le_intCast.2 h
theorem val_int_lt {T : Nat} {m : Int} : Fp.val T < (m : Rat) ↔ Fp.sv T < m * ((Fp.Uu : Nat) : Int) := by
  rw [← Rat.not_le, ← Int.not_le, val_int]
/-- Of every finite number's magnitude: the logarithm, the tens, their floor, the greater of that and zero. -/
theorem tensAll (X : Nat) (hX : X < 9218868437227405312) : ∃ (L T F : Nat) (m : Int), Extern.MathLog.archLog #[.float .f64 X] = pure (.float .f64 L) ∧ Ieee.double.mul L 4601495173785380110 = some T ∧ ¬ Fp.nan T ∧
      Ieee.double.write ((Ieee.double.read T).integral .down) = F ∧ Fp.maxW 0 F = Fp.iw m ∧ 0 ≤ m ∧ m ≤ 2000 := by
  by_cases h0 : X = 0
  · subst h0
    refine ⟨18442240474082181120, 18442240474082181120, 18442240474082181120, 0, ?_, by decide +kernel, by decide, by decide +kernel, by decide +kernel, by omega, by omega⟩
    rfl
  · have hL : ∃ L, Extern.MathLog.archLog #[.float .f64 X] = pure (.float .f64 L) ∧ Fp.In 13873620127091523584 4650248090236747776 L := by
      have e : X = X / 4503599627370496 * 4503599627370496 + X % 4503599627370496 := by omega
      rw [e]
      by_cases hs : 4604544271217802189 < 1022 * 4503599627370496 + X % 4503599627370496
      · exact lgUp _ _ (by omega) (by omega) (by omega) hs
      · exact lgDown _ _ (by omega) (by omega) (by omega) (by omega)
    obtain ⟨L, e1, iL⟩ := hL
    obtain ⟨T, e2, iT⟩ := Fp.mul_in iL (Fp.In.self (x := 4601495173785380110) (Fp.finB_fin (by decide))) (lz := 13873620127091523584) (hz := 4650248090236747776) (by decide +kernel)
    have t1 := iT.vlo
    have t2 := iT.vhi
    have b1 : ((-800 : Int) : Rat) ≤ Fp.val 13873620127091523584 := by decide +kernel
    have b2 : Fp.val 4650248090236747776 < ((801 : Int) : Rat) := by decide +kernel
    have hN : Fp.N (Fp.rg T) ≤ 801 * Fp.Uu := by
      have s1 := (val_int (T := T) (m := -800)).1 (Rat.le_trans b1 t1)
      have s2 := (val_int_lt (T := T) (m := 801)).1 (Std.lt_of_le_of_lt t2 b2)
      unfold Fp.sv Fp.sn at s1 s2
      generalize Fp.Uu = U at *
      cases hs : Fp.sg T <;> simp only [hs, if_true, if_false, Bool.false_eq_true] at s1 s2 <;> omega
    obtain ⟨F, m, f1, f2, f3, f4, f5, f6⟩ := Fp.max_floor (B := 801) iT.fin (by omega) hN
    refine ⟨L, T, F, _, e1, e2, ?_, f1, f6, by split <;> omega, by split <;> omega⟩
    have := iT.fin
    unfold Fp.fin at this; unfold Fp.nan; omega
theorem x_log (x L : Nat) (h : Extern.MathLog.archLog #[.float .f64 x] = pure (.float .f64 L)) (W : World) : (callFunc 46 #[.float .f64 x]).run Try.prog W = .ok (.value (.float .f64 L)) W := by
  rw [run_callFunc_extern (e := Extern.MathLog.archLog) Try.func46 (by kernel_rfl) (by kernel_rfl) (by kernel_rfl) (by kernel_rfl), h]
  rfl
theorem x_max (x y : Nat) (W : World) : (callFunc 32 #[.float .f64 x, .float .f64 y]).run Try.prog W = .ok (.value (.float .f64 (Fp.maxW x y))) W := by
  rw [run_callFunc_extern (e := Extern.MathDim.pick "math.archMax" false .gt) Try.func32 (by kernel_rfl) (by kernel_rfl) (by kernel_rfl) (by kernel_rfl)]
  rfl
/-- The entry that makes a float whole, at a float. -/
def wholeOf (what : String) (way : Ieee.Toward) (x : Nat) : Sem Value :=
  match Ieee.double.read x with
  | .nan s t =>
    if FloatKind.f64.format.quiet t = t then pure (.float .f64 x) else do
    let kept ← choose (.extern what 2)
    pure (.float .f64 (if kept == 1 then x else FloatKind.f64.encode (.nan s (FloatKind.f64.format.quiet t))))
  | d => pure (.float .f64 (FloatKind.f64.encode (d.integral way)))
theorem wholeOf_eq (nm : String) (way : Ieee.Toward) (x : Nat) : ∃ what, Extern.MathFloor.toIntegral nm way #[.float .f64 x] = wholeOf what way x := ⟨_, rfl⟩
theorem x_floor {x : Nat} (h : ¬ Fp.nan x) (W : World) : (callFunc 34 #[.float .f64 x]).run Try.prog W = .ok (.value (.float .f64 (Ieee.double.write ((Ieee.double.read x).integral .down)))) W := by
  rw [run_callFunc_extern (e := Extern.MathFloor.toIntegral "math.archFloor" .down) Try.func34 (by kernel_rfl) (by kernel_rfl) (by kernel_rfl) (by kernel_rfl)]
  have h2 : (Ieee.double.read x).isNaN = false := by
    cases hd : (Ieee.double.read x).isNaN
    · rfl
    · exact absurd ((Fp.isNaN_iff x).1 hd) h
  obtain ⟨what, hw⟩ := wholeOf_eq _ _ x
  rw [hw]; unfold wholeOf
  cases hd : Ieee.double.read x with
  | nan s t => rw [hd] at h2; simp [Ieee.Datum.isNaN] at h2
  | number s m p => rfl
  | infinity s => rfl
theorem log26 (x L T : Nat) (h : Extern.MathLog.archLog #[.float .f64 x] = pure (.float .f64 L)) (h2 : Ieee.double.mul L 4601495173785380110 = some T) (w : World) : Calls Try.prog 26 #[.float .f64 x] w fun e w' => e = .returned (.float .f64 T) ∧ w = w' := by
  have hx := fun W => x_log x L h W
  have hm := fun (t : TypeId) (W : World) => run_float_arith (P := Try.prog) W .mul t .f64 _ _ _ (show floatBits .mul .f64 L 4601495173785380110 = some T from h2)
  clear h h2
  go_enter Try.func26, Try.ntmps26
  go_wp2_with (first | (go_at_call 37; go_enter Try.func37, Try.ntmps37) | (go_at_call 43; go_enter Try.func43, Try.ntmps43) | go_in)
  all_goals (repeat go_ret)
  all_goals exact ⟨rfl, rfl⟩
theorem conv_iw {n : Int} (h1 : 0 ≤ n) (h2 : n ≤ 2000) : floatToIntVal .f64 (Fp.iw n) .i64 = some n := by
  have e := Fp.tr_of_sv (Fp.iw_sv' (n := n) (by omega))
  have q := conv_in (f := Fp.iw n) (k := .i64) (Fp.iw_fin (by omega)) (by rw [e]; show (-9223372036854775808 : Int) ≤ n; omega) (by rw [e]; show n ≤ (9223372036854775807 : Int); omega)
  rwa [e] at q
/-- Every finite number has its count. -/
theorem count14 (x : Nat) (hx : x < 18446744073709551616) (hf : Fp.fin x) : ∃ c : Int, 0 ≤ c ∧ c ≤ 2010 ∧ ∀ w, Calls Try.prog 14 #[.float .f64 x] w fun e w' => e = .returned (.int .i64 c) ∧ w = w' := by
  obtain ⟨L, T, F, m, e1, e2, nT, e3, e4, m0, m1⟩ := tensAll (Fp.rg x) hf
  obtain ⟨b, hb⟩ : ∃ b, (FloatKind.f64.format.order x 0 == some .lt) = b := ⟨_, rfl⟩
  refine ⟨1 + m + (if b then 1 else 0), by split <;> omega, by split <;> omega, fun w => ?_⟩
  have HA := Lib.hid (abs x hx w)
  have HL := Lib.hid (log26 _ L T e1 e2 w)
  have HF := fun W => x_floor nT W
  rw [e3] at HF
  have HX := fun W => x_max 0 F W
  rw [e4] at HX
  have hc : floatToIntVal .f64 (Fp.iw m) .i64 = some m := conv_iw m0 m1
  have hcv := fun W => run_convert_float_int (P := Try.prog) W 22 3 .f64 .i64 _ _ (by kernel_rfl) Try.underlying3 hc
  generalize Fp.rg x = Y at *
  generalize Fp.iw m = Z at *
  clear e1 e2 e3 e4 nT hc
  cases b
  all_goals
    go_enter Try.func14, Try.ntmps14
    go_wp2_with (first
      | (go_at_call 12; (with_reducible refine HA.out.mono ?_); rintro _ _ ⟨rfl, rfl⟩)
      | (go_at_call 26; (with_reducible refine HL.out.mono ?_); rintro _ _ ⟨rfl, rfl⟩)
      | (go_at_call 25; go_enter Try.func25, Try.ntmps25)
      | (go_at_call 24; go_enter Try.func24, Try.ntmps24))
    repeat go_ret
    all_goals exact ⟨by simp <;> omega, rfl⟩
end Go.Proofs.Ytfacphjjmmfegaa
