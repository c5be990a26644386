/-
  Contracts of math.Log2 and of F64.Log2. No condition.
-/
import Derived.Test.YtkdlfggghgchjaaMth
import Derived.Test.YtkdlfggghgchjaaLg
namespace Go.Proofs.Ytkdlfggghgchjaa
open Go.ChangeShapes Go.WideShapes Go.ChangeAt Go.RowKit
set_option linter.unusedVariables false

theorem x_log (x L : Nat) (h : Extern.MathLog.archLog #[.float .f64 x] = pure (.float .f64 L)) (W : World) : (callFunc 30 #[.float .f64 x]).run Try.prog W = .ok (.value (.float .f64 L)) W := by
  rw [run_callFunc_extern (e := Extern.MathLog.archLog) Try.func30 (by kernel_rfl) (by kernel_rfl) (by kernel_rfl) (by kernel_rfl), h]
  rfl
theorem log21 (x L : Nat) (h : Extern.MathLog.archLog #[.float .f64 x] = pure (.float .f64 L)) (w : World) : Calls Try.prog 21 #[.float .f64 x] w fun e w' => e = .returned (.float .f64 L) ∧ w = w' := by
  have hx := fun W => x_log x L h W
  clear h
  go_enter Try.func21, Try.ntmps21
  go_wp2_with fail
  go_ret
  exact ⟨rfl, rfl⟩
/-- What log2 gives of a positive finite number. -/
def LPost (x : Nat) (w : World) (e : Ending) (w' : World) : Prop :=
  ∃ (R M t : Nat) (j : Int), e = .returned (.float .f64 R) ∧ M < 4503599627370496 ∧ (t : Int) = j + 1073 ∧ t ≤ 2097 ∧ Fp.N x * 4503599627370496 = (4503599627370496 + M) * 2 ^ t ∧
    (R = Fp.iw (j - 1) ∨ ∃ m, Fp.In 13830554455655693936 0 m ∧ Ieee.double.add m (Fp.iw j) = some R) ∧ w = w'
/-- The fraction's logarithm times 1/Ln2. -/
theorem frac_log (F : Nat) (h1 : 4602678819172646912 ≤ F) (h2 : F < 4607182418800017408) : ∃ L m, Extern.MathLog.archLog #[.float .f64 F] = pure (.float .f64 L) ∧ Ieee.double.mul L 4609176140021203710 = some m ∧ Fp.In 13830554455655693936 0 m := by
  have ic : Fp.In 4609176140021203710 4609176140021203710 4609176140021203710 := Fp.In.self (Fp.finB_fin (by decide))
  by_cases h : F ≤ 4604544271217802189
  · obtain ⟨L, e, i⟩ := lgB F h1 h
    obtain ⟨m, hm, im⟩ := Fp.mul_in i ic (lz := 13830554455655693936) (hz := 0) (by decide +kernel)
    exact ⟨L, m, e, hm, im⟩
  · obtain ⟨L, e, i⟩ := lgA F (by omega) h2
    obtain ⟨m, hm, im⟩ := Fp.mul_in i ic (lz := 13830554455655693936) (hz := 0) (by decide +kernel)
    exact ⟨L, m, e, hm, im⟩
theorem iw_In {j : Int} (h : j.natAbs ≤ 9007199254740992) : Fp.In (Fp.iw j) (Fp.iw j) (Fp.iw j) := by
  obtain ⟨k, e, _, hk, _⟩ := Fp.iw_exact h
  exact Fp.In.self (by rw [e]; unfold Fp.fin; rw [Fp.rg_wd (by omega)]; exact hk)
set_option maxHeartbeats 2000000 in
theorem log2_17 (x : Nat) (h0 : 0 < x) (hx : x < 9218868437227405312) (w : World) : Calls Try.prog 17 #[.float .f64 x] w (LPost x w) := by
  have HF := Lib.hid (frexp20 x (by omega) (by rw [Fp.rg_pos (by omega)]; exact hx) (by rw [Fp.rg_pos (by omega)]; omega) w)
  have esg : Fp.sg x = false := Fp.sg_pos (by omega)
  have erg : Fp.rg x = x := Fp.rg_pos (by omega)
  go_enter Try.func17, Try.ntmps17
  go_wp2_with fail
  refine HF.out.mono ?_
  rintro _ _ ⟨M, t, j, rfl, h1, h2, h3, h4, rfl⟩
  rw [esg, show Fp.wd false (1022 * 4503599627370496 + M) = 1022 * 4503599627370496 + M from rfl]
  rw [erg] at h4
  have g := f_eq (x := 1022 * 4503599627370496 + M) (y := 4602678819172646912) (nn_pos (by omega)) (by decide)
  rw [ky_pos (by omega), ky_pos (by omega)] at g
  by_cases hM : M = 0
  · rw [decide_eq_true (by omega)] at g
    have HE := Lib.hid (show LPost x w (.returned (.float .f64 (Fp.iw (j - 1)))) w from ⟨_, M, t, j, rfl, h1, h2, h3, h4, .inl rfl, rfl⟩)
    generalize 1022 * 4503599627370496 + M = F at *
    have hj : -1073 ≤ j ∧ j ≤ 1024 := by omega
    obtain ⟨hj1, hj2⟩ := hj
    clear HF esg erg h4 h3 h2 h1 hM
    go_wp2_with fail
    go_ret
    exact HE.out
  · rw [decide_eq_false (by omega)] at g
    obtain ⟨L, m, e1, e2, im⟩ := frac_log (1022 * 4503599627370496 + M) (by omega) (by omega)
    have hj : -1073 ≤ j ∧ j ≤ 1024 := by omega
    obtain ⟨hj1, hj2⟩ := hj
    obtain ⟨R, e3, _⟩ := Fp.fadd im.fin (iw_In (j := j) (by omega)).fin
    have HL := Lib.hid (log21 _ L e1 w)
    have HE := Lib.hid (show LPost x w (.returned (.float .f64 R)) w from ⟨_, M, t, j, rfl, h1, h2, h3, h4, .inr ⟨m, im, e3⟩, rfl⟩)
    have hm := fun (t : TypeId) (W : World) => run_float_arith (P := Try.prog) W .mul t .f64 _ _ _ (show floatBits .mul .f64 L 4609176140021203710 = some m from e2)
    have ha := fun (t : TypeId) (W : World) => run_float_arith (P := Try.prog) W .add t .f64 _ _ _ (show floatBits .add .f64 m (floatOfInt .f64 j) = some R from e3)
    generalize 1022 * 4503599627370496 + M = F at *
    clear HF esg erg h4 h3 h2 h1 hM e1 e2 e3 im
    go_wp2_with (go_at_call 21; (with_reducible refine HL.out.mono ?_); rintro _ _ ⟨rfl, rfl⟩)
    go_ret
    exact HE.out
theorem log2_14 (x : Nat) (h0 : 0 < x) (hx : x < 9218868437227405312) (w : World) : Calls Try.prog 14 #[.float .f64 x] w (LPost x w) := by
  have H := Lib.hid (log2_17 x h0 hx w)
  clear h0 hx
  go_enter Try.func14, Try.ntmps14
  go_wp2_with fail
  refine H.out.mono ?_
  rintro _ _ ⟨R, M, t, j, rfl, h1, h2, h3, h4, h5, rfl⟩
  have HE := Lib.hid (show LPost x w (.returned (.float .f64 R)) w from ⟨R, M, t, j, rfl, h1, h2, h3, h4, h5, rfl⟩)
  clear h1 h2 h3 h4 h5 H
  go_wp2_with fail
  go_ret
  exact HE.out
set_option exponentiation.threshold 2000 in
theorem val_iw {n : Int} (h : n.natAbs ≤ 9007199254740992) : Fp.val (Fp.iw n) = (n : Rat) := by
  have e : Fp.val (Fp.iw n) * Fp.cc = (n : Rat) * Fp.cc := by
    rw [Fp.val_cc, Fp.iw_sv h, Rat.intCast_mul, Fp.pow_cast]
    simp only [Fp.cc]
  exact Rat.le_antisymm (Rat.le_of_mul_le_mul_right (by rw [e]; exact Rat.le_refl) Fp.cc_pos) (Rat.le_of_mul_le_mul_right (by rw [e]; exact Rat.le_refl) Fp.cc_pos)
theorem finBig {q : Rat} {r : Nat} (n : Fp.Rnd q r) (h1 : -2000 ≤ q) (h2 : q ≤ 2000) : Fp.fin r := by
  have a1 : Fp.val 13879882945323335680 = -2000 := by decide +kernel
  have a2 : Fp.val 4656510908468559872 = 2000 := by decide +kernel
  exact (n.isIn (l := 13879882945323335680) (h := 4656510908468559872) (Fp.finB_fin (by decide)) (Fp.finB_fin (by decide)) (by rw [a1]; exact h1) (by rw [a2]; exact h2)).fin
/-- Where the rounded sum lies. -/
theorem sum_bound (j : Int) (h1 : -1100 ≤ j) (h2 : j ≤ 1100) {R lo hi : Nat} (hR : R = Fp.iw (j - 1) ∨ ∃ m, Fp.In 13830554455655693936 0 m ∧ Ieee.double.add m (Fp.iw j) = some R)
    (hlo : Ieee.double.sub (Fp.iw (j - 1)) 4472406533629990549 = some lo) (hhi : Ieee.double.add (Fp.iw j) 4472406533629990549 = some hi) :
    ¬ Fp.nan R ∧ ¬ Fp.nan lo ∧ ¬ Fp.nan hi ∧ Fp.ky lo ≤ Fp.ky R ∧ Fp.ky R ≤ Fp.ky hi := by
  have c1 : (0 : Rat) ≤ Fp.val 4472406533629990549 := by decide +kernel
  have c2 : Fp.val 4472406533629990549 ≤ 1 := by decide +kernel
  have c3 : 4002 ≤ 9007199254740992 * (Fp.val 13830554455655693936 + 1 + Fp.val 4472406533629990549) := by decide +kernel
  have c4 : (-2 : Rat) ≤ Fp.val 13830554455655693936 := by decide +kernel
  have c5 : Fp.val 0 = 0 := by decide +kernel
  have i1 := iw_In (j := j - 1) (by omega)
  have i2 := iw_In (j := j) (by omega)
  have ic : Fp.In 4472406533629990549 4472406533629990549 4472406533629990549 := Fp.In.self (Fp.finB_fin (by decide))
  have nlo := Fp.sub_near i1 ic hlo
  have nhi := Fp.add_near i2 ic hhi
  have v1 := val_iw (n := j - 1) (by omega)
  have v2 := val_iw (n := j) (by omega)
  have vj : (((j - 1 : Int)) : Rat) = (j : Rat) - 1 := by rw [Rat.intCast_sub]; rfl
  rw [vj] at v1
  have q1 : (-1100 : Rat) ≤ (j : Rat) := by
    have := Rat.intCast_le_intCast.2 h1
    exact this
  have q2 : (j : Rat) ≤ 1100 := by
    have := Rat.intCast_le_intCast.2 h2
    exact this
  rw [v1] at nlo
  rw [v2] at nhi
  generalize Fp.val 4472406533629990549 = c at *
  rcases hR with rfl | ⟨m, im, hm⟩
  · refine ⟨iw_not_nan _, nlo.nn, nhi.nn, nlo.le i1.fin (by rw [v1]; grind), nhi.ge i1.fin (by rw [v1]; grind)⟩
  · have nR := Fp.add_near im i2 hm
    rw [v2] at nR
    have m1 := im.vlo
    have m2 := im.vhi
    rw [c5] at m2
    refine ⟨nR.nn, nlo.nn, nhi.nn, ?_, Int.le_trans (nR.le i2.fin (by rw [v2]; grind)) (nhi.ge i2.fin (by rw [v2]; grind))⟩
    have f1 := finBig nlo.toRnd (by grind) (by grind)
    have f2 := finBig nR.toRnd (by grind) (by grind)
    have e1 := (nlo.err f1 2000 (by grind) (by grind)).1
    have e2 := (nR.err f2 2000 (by grind) (by grind)).2
    have ht := tiny_small
    refine Fp.val_ky.1 ?_
    grind
end Go.Proofs.Ytkdlfggghgchjaa
