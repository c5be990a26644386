/-
  What the law FnLog2TableAndOctaveBound does, for every input. No condition.
-/
import Derived.Test.YtkdlfggghgchjaaLgw
import Derived.Test.YtkdlfggghgchjaaKit
import Derived.WalkSmall
namespace Go.Proofs.Ytkdlfggghgchjaa.fnLog2TableAndOctaveBound
open Go.ChangeShapes Go.WideShapes Go.ChangeAt Go.RowKit
set_option linter.unusedVariables false

theorem new5 (x : Nat) (w : World) : Calls Try.prog 5 #[.float .f64 x] w fun e w' => e = .returned (.agg #[.float .f64 x]) ∧ Below w.heap.size w w' := by
  go_enter Try.func5, Try.ntmps5
  go_wp2
  exact bodyPost_ret (by simp [results, Try.results5, go_sem]) rfl ⟨rfl, by go_grown⟩
theorem val7 (x : Nat) (w : World) : Calls Try.prog 7 #[.agg #[.float .f64 x]] w fun e w' => e = .returned (.float .f64 x) ∧ Below w.heap.size w w' := by
  go_enter Try.func7, Try.ntmps7
  go_wp2
  go_ret
  exact ⟨rfl, by go_grown⟩
/-- A number comes of x, whatever the world. -/
abbrev Gives (F : FuncId) (x : Nat) (Q : Nat → Prop) : Prop := ∀ w, Calls Try.prog F #[.float .f64 x] w fun e w' => ∃ R, e = .returned (.float .f64 R) ∧ Q R ∧ Below w.heap.size w w'
theorem log6 (x : Nat) (Q : Nat → Prop) (h : Gives 14 x Q) (w : World) : Calls Try.prog 6 #[.agg #[.float .f64 x]] w fun e w' => ∃ R, e = .returned (.agg #[.float .f64 R]) ∧ Q R ∧ Below w.heap.size w w' := by
  have H := Lib.hid h
  clear h
  go_enter Try.func6, Try.ntmps6
  go_wp2_with fail
  refine (H.out _).mono ?_
  rintro e w1 ⟨R, rfl, hQ, hb⟩
  have HQ := Lib.hid hQ
  have c1 : w1.cell? ⟨w.heap.size + 1, 0, none⟩ = some (.float .f64 0) := by
    rw [hb.cell (p := ⟨w.heap.size + 1, 0, none⟩) (by simp)]; simp [go_sem]
  have f1 : w1.frozen? ⟨w.heap.size + 1, 0, none⟩ = false := by
    rw [hb.frozen (p := ⟨w.heap.size + 1, 0, none⟩) (by simp)]; simp [go_sem]
  have z1 : w.heap.size + 2 ≤ w1.heap.size := by have := hb.size; simpa using this
  have B1 : Hid (Below w.heap.size w w1) := (((Below.refl _ w).alloc (Nat.le_refl _) _).alloc (by simp) _).trans (hb.mono (by simp; omega))
  clear hQ hb
  go_wp2_with fail
  refine (new5 _ _).mono ?_
  rintro e w2 ⟨rfl, hb⟩
  have c2 : w2.cell? ⟨w.heap.size + 1, 0, none⟩ = some (.float .f64 0) := by
    rw [hb.cell (p := ⟨w.heap.size + 1, 0, none⟩) (by show w.heap.size + 1 < _; omega)]; exact c1
  have f2 : w2.frozen? ⟨w.heap.size + 1, 0, none⟩ = false := by
    rw [hb.frozen (p := ⟨w.heap.size + 1, 0, none⟩) (by show w.heap.size + 1 < _; omega)]; exact f1
  have B2 := Lib.hid (B1.out.trans (hb.mono (by omega)))
  clear hb c1 f1 B1
  go_wp2_with fail
  exact bodyPost_ret (by simp [results, Try.results6, go_sem, c2]) rfl ⟨_, rfl, HQ.out, B2.out.setCell (p := ⟨w.heap.size + 1, 0, none⟩) (by simp) _⟩
/-- Log2 of a positive finite number. -/
def QL (x R : Nat) : Prop := ∃ (M t : Nat) (j : Int), M < 4503599627370496 ∧ (t : Int) = j + 1073 ∧ t ≤ 2097 ∧ Fp.N x * 4503599627370496 = (4503599627370496 + M) * 2 ^ t ∧
    (R = Fp.iw (j - 1) ∨ ∃ m, Fp.In 13830554455655693936 0 m ∧ Ieee.double.add m (Fp.iw j) = some R)
theorem give_pos (x : Nat) (h0 : 0 < x) (hx : x < 9218868437227405312) : Gives 14 x (QL x) := fun w =>
  (log2_14 x h0 hx w).mono fun e w' ⟨R, M, t, j, h1, h2, h3, h4, h5, h6, h7⟩ => ⟨R, h1, ⟨M, t, j, h2, h3, h4, h5, h6⟩, h7 ▸ Below.refl _ _⟩
/-- The octave is the exponent less one. -/
theorem oct_eq {x M t M' a b : Nat} {j : Int} (h1 : M < 4503599627370496) (h2 : (t : Int) = j + 1073) (h3 : Fp.N x * 4503599627370496 = (4503599627370496 + M) * 2 ^ t)
    (h4 : M' < 4503599627370496) (h5 : Fp.N x * 4503599627370496 * 2 ^ a = (4503599627370496 + M') * 2 ^ (1074 + b)) : (b : Int) - a = j - 1 := by
  rw [h3, Nat.mul_assoc, ← Nat.pow_add] at h5
  have := Fp.expo h1 h4 h5
  omega
theorem one_iw : (4607182418800017408 : Nat) = Fp.iw 1 := by decide +kernel
set_option maxHeartbeats 4000000 in
theorem walkPos (x : Nat) (h0 : 0 < x) (hx : x < 9218868437227405312) (w : World) :
    Calls Try.prog 3 #[.float .f64 x] w fun e w' => e = .returned (.bool true) ∧ Below w.heap.size w w' := by
  have HG := Lib.hid (give_pos x h0 hx)
  have HO := fun W => Lib.hid (octave8 x h0 hx W)
  have g1 := s_ne (x := x) (nn_pos (by omega))
  have g2 := f_lt (x := x) (y := 0) (nn_pos (by omega)) (by decide)
  have g3 := f_eq (x := x) (y := 0) (nn_pos (by omega)) (by decide)
  have g4 := f_gt (x := x) (y := 9218868437227405311) (nn_pos (by omega)) (by decide)
  rw [ky_pos (by omega), ky_zero, decide_eq_false (by omega)] at g2 g3
  rw [ky_pos (by omega), ky_pos (by omega), decide_eq_false (by omega)] at g4
  clear h0 hx
  go_enter Try.func3, Try.ntmps3
  go_wp2_with fail
  refine (new5 _ _).mono ?_
  rintro e w1 ⟨rfl, hb1⟩
  have HB1 := Lib.hid hb1
  clear hb1
  go_wp2_with fail
  refine (log6 x _ HG.out _).mono ?_
  rintro e w2 ⟨R, rfl, hQ, hb2⟩
  have HQ := Lib.hid hQ
  have HB2 := Lib.hid (HB1.out.trans (hb2.mono HB1.out.size))
  clear hb2 hQ
  go_wp2_with fail
  refine (val7 R _).mono ?_
  rintro e w3 ⟨rfl, hb3⟩
  have HB3 := Lib.hid (HB2.out.trans (hb3.mono HB2.out.size))
  clear hb3
  go_wp2_with fail
  refine (HO _).out.mono ?_
  rintro e w4 ⟨a, b, M', rfl, o1, o2, o3, o4, rfl⟩
  obtain ⟨M, t, j, q1, q2, q3, q4, q5⟩ := HQ.out
  have hj := oct_eq q1 q2 q4 o1 o2
  rw [hj]
  have j1 : -1100 ≤ j := by omega
  have j2 : j ≤ 1100 := by omega
  obtain ⟨lo, hlo, _⟩ := Fp.fsub (iw_In (j := j - 1) (by omega)).fin (show Fp.fin 4472406533629990549 by decide)
  obtain ⟨hi, hhi, _⟩ := Fp.fadd (iw_In (j := j) (by omega)).fin (show Fp.fin 4472406533629990549 by decide)
  obtain ⟨n1, n2, n3, k1, k2⟩ := sum_bound j j1 j2 q5 hlo hhi
  have hone : Ieee.double.add (Fp.iw (j - 1)) 4607182418800017408 = some (Fp.iw j) := by
    rw [one_iw, Fp.iw_add (by omega) (by omega), show j - 1 + 1 = j by omega]
  have r1 := fun (t : TypeId) (W : World) => run_float_arith (P := Try.prog) W .sub t .f64 _ _ _ (show floatBits .sub .f64 (floatOfInt .f64 (j - 1)) 4472406533629990549 = some lo from hlo)
  have r2 := fun (t : TypeId) (W : World) => run_float_arith (P := Try.prog) W .add t .f64 _ _ _ (show floatBits .add .f64 (floatOfInt .f64 (j - 1)) 4607182418800017408 = some (Fp.iw j) from hone)
  have r3 := fun (t : TypeId) (W : World) => run_float_arith (P := Try.prog) W .add t .f64 _ _ _ (show floatBits .add .f64 (Fp.iw j) 4472406533629990549 = some hi from hhi)
  have e1 := f_gt n1 n2
  have e2 := f_eq n1 n2
  have e3 := f_lt n1 n3
  have e4 := f_eq n1 n3
  generalize Fp.ky R = A at *
  generalize Fp.ky lo = Bq at *
  generalize Fp.ky hi = Cq at *
  generalize Fp.iw j = z at *
  have HB := Lib.hid HB3.out
  clear hlo hhi hone n1 n2 n3 q1 q2 q3 q4 q5 o1 o2 o3 o4 hj HQ HO HG HB1 HB2 HB3 g1 g2 g3 g4
  by_cases p1 : A = Bq <;> by_cases p2 : A = Cq
  · rw [decide_eq_false (by omega)] at e1 e3
    rw [decide_eq_true p1] at e2
    rw [decide_eq_true p2] at e4
    clear p1 p2 k1 k2
    go_wp2_with fail
    go_ret
    exact ⟨rfl, HB.out⟩
  · rw [decide_eq_false (by omega)] at e1
    rw [decide_eq_true (by omega)] at e3
    rw [decide_eq_true p1] at e2
    rw [decide_eq_false p2] at e4
    clear p1 p2 k1 k2
    go_wp2_with fail
    go_ret
    exact ⟨rfl, HB.out⟩
  · rw [decide_eq_true (by omega)] at e1
    rw [decide_eq_false (by omega)] at e3
    rw [decide_eq_false p1] at e2
    rw [decide_eq_true p2] at e4
    clear p1 p2 k1 k2
    go_wp2_with fail
    go_ret
    exact ⟨rfl, HB.out⟩
  · rw [decide_eq_true (by omega)] at e1
    rw [decide_eq_true (by omega)] at e3
    rw [decide_eq_false p1] at e2
    rw [decide_eq_false p2] at e4
    clear p1 p2 k1 k2
    go_wp2_with fail
    go_ret
    exact ⟨rfl, HB.out⟩
theorem arch_zero {x : Nat} (h : x % 9223372036854775808 = 0) : Extern.MathLog.archLog #[.float .f64 x] = pure (.float .f64 18442240474082181120) := by
  unfold Extern.MathLog.archLog
  rw [log_arg, if_pos (by simpa using h)]
  rfl
theorem arch_neg {x : Nat} (h : x % 9223372036854775808 ≠ 0) (h2 : 9223372036854775808 ≤ x) : Extern.MathLog.archLog #[.float .f64 x] = pure (.float .f64 9221120237041090561) := by
  unfold Extern.MathLog.archLog
  rw [log_arg, if_neg (by simpa using h), if_pos (by omega)]
  rfl
theorem arch_top {x : Nat} (h : 9218868437227405312 ≤ x) (h2 : x < 9223372036854775808) : Extern.MathLog.archLog #[.float .f64 x] = pure (.float .f64 x) := by
  unfold Extern.MathLog.archLog
  rw [log_arg, if_neg (by simp; omega), if_neg (by omega), if_pos (by unfold Extern.MathAsm.posInf; omega)]
/-- Log2 where the fraction's logarithm and its product are told. -/
theorem log2_at (x f L : Nat) (j : Int) (hj : -2000 ≤ j ∧ j ≤ 2000) (w : World) (hf : Calls Try.prog 20 #[.float .f64 x] w fun e w' => e = .returned (.tuple #[.float .f64 f, .int .i64 j]) ∧ w = w')
    (g : (FloatKind.f64.format.order f 4602678819172646912 == some .eq) = false) (hL : Extern.MathLog.archLog #[.float .f64 f] = pure (.float .f64 L)) {m R : Nat} (e2 : Ieee.double.mul L 4609176140021203710 = some m) (e3 : Ieee.double.add m (Fp.iw j) = some R) :
    Calls Try.prog 17 #[.float .f64 x] w fun e w' => e = .returned (.float .f64 R) ∧ w = w' := by
  have HF := Lib.hid hf
  have HL := Lib.hid (log21 _ L hL w)
  have hm := fun (t : TypeId) (W : World) => run_float_arith (P := Try.prog) W .mul t .f64 _ _ _ (show floatBits .mul .f64 L 4609176140021203710 = some m from e2)
  have ha := fun (t : TypeId) (W : World) => run_float_arith (P := Try.prog) W .add t .f64 _ _ _ (show floatBits .add .f64 m (floatOfInt .f64 j) = some R from e3)
  obtain ⟨hj1, hj2⟩ := hj
  clear hf hL e2 e3
  go_enter Try.func17, Try.ntmps17
  go_wp2_with (first
    | (go_at_call 20; (with_reducible refine HF.out.mono ?_); rintro _ _ ⟨rfl, rfl⟩)
    | (go_at_call 21; (with_reducible refine HL.out.mono ?_); rintro _ _ ⟨rfl, rfl⟩))
  go_ret
  exact ⟨rfl, rfl⟩
/-- Log2 where the fraction's logarithm is NaN. -/
theorem log2_nan (x f L : Nat) (j : Int) (hj : -2000 ≤ j ∧ j ≤ 2000) (w : World) (hf : Calls Try.prog 20 #[.float .f64 x] w fun e w' => e = .returned (.tuple #[.float .f64 f, .int .i64 j]) ∧ w = w')
    (g : (FloatKind.f64.format.order f 4602678819172646912 == some .eq) = false) (hL : Extern.MathLog.archLog #[.float .f64 f] = pure (.float .f64 L)) (e2 : Ieee.double.mul L 4609176140021203710 = none) (e3 : ∀ y, IsNan y → Ieee.double.add y (Fp.iw j) = none) :
    Calls Try.prog 17 #[.float .f64 x] w fun e w' => ∃ R, e = .returned (.float .f64 R) ∧ IsNan R ∧ Below w.heap.size w w' := by
  have HF := Lib.hid hf
  have HL := Lib.hid (log21 _ L hL w)
  have hm := fun (t : TypeId) (W : World) => run_float_nan (P := Try.prog) W .mul t L 4609176140021203710 (by simp) (show floatBits .mul .f64 L 4609176140021203710 = none from e2)
  have ha := fun (t : TypeId) (W : World) (q : Nat) => run_float_nan (P := Try.prog) W .add t (nanOf q) (floatOfInt .f64 j) (by simp) (show floatBits .add .f64 (nanOf q) (floatOfInt .f64 j) = none from e3 _ (nanOf_isNan q))
  obtain ⟨hj1, hj2⟩ := hj
  clear hf hL e2 e3
  go_enter Try.func17, Try.ntmps17
  go_wp2_with (first
    | (go_at_call 20; (with_reducible refine HF.out.mono ?_); rintro _ _ ⟨rfl, rfl⟩)
    | (go_at_call 21; (with_reducible refine HL.out.mono ?_); rintro _ _ ⟨rfl, rfl⟩))
  go_ret
  exact ⟨_, rfl, nanOf_isNan _, by go_grown⟩
theorem read_nan {x : Nat} (h : Fp.nan x) : ∃ s f, Ieee.double.read x = .nan s f := by
  rw [Fp.read_eq]
  unfold Fp.nan at h
  unfold Fp.dec
  rw [if_neg (by omega), if_neg (by omega), if_neg (by omega)]
  exact ⟨_, _, rfl⟩
theorem mul_nan {x y : Nat} (h : Fp.nan x) : Ieee.double.mul x y = none := by
  obtain ⟨s, f, e⟩ := read_nan h
  unfold Ieee.Format.mul
  rw [e]
  cases Ieee.double.read y <;> rfl
theorem add_nan {x y : Nat} (h : Fp.nan x) : Ieee.double.add x y = none := by
  obtain ⟨s, f, e⟩ := read_nan h
  unfold Ieee.Format.add
  rw [e]
  cases Ieee.double.read y <;> rfl
theorem up14 (x : Nat) (Q : Nat → Prop) (h : ∀ w, Calls Try.prog 17 #[.float .f64 x] w fun e w' => ∃ R, e = .returned (.float .f64 R) ∧ Q R ∧ Below w.heap.size w w') : Gives 14 x Q := fun w => by
  have H := Lib.hid (h w)
  clear h
  go_enter Try.func14, Try.ntmps14
  go_wp2_with fail
  refine H.out.mono ?_
  rintro _ _ ⟨R, rfl, hQ, hb⟩
  have HQ := Lib.hid hQ
  have HB := Lib.hid hb
  clear hQ hb
  go_wp2_with fail
  go_ret
  exact ⟨_, rfl, HQ.out, HB.out⟩
theorem give_zero (x : Nat) (hx : x < 18446744073709551616) (h : Fp.rg x = 0) : Gives 14 x (fun R => R = 18442240474082181120) := up14 x _ fun w => by
  have g := f_eq (x := x) (y := 4602678819172646912) (by unfold Fp.nan; omega) (by decide)
  rw [show Fp.ky x = 0 by unfold Fp.ky Fp.key Fp.sn; rw [h]; split <;> rfl, show Fp.ky 4602678819172646912 = 4602678819172646912 by decide, decide_eq_false (by omega)] at g
  refine (log2_at x x 18442240474082181120 0 (by omega) w (frexpSame x hx (.inl h) w) g (arch_zero h) (m := 18442240474082181120) (R := 18442240474082181120) (by decide) (by decide)).mono ?_
  rintro _ _ ⟨rfl, rfl⟩
  exact ⟨_, rfl, rfl, Below.refl _ _⟩
theorem give_inf : Gives 14 9218868437227405312 (fun R => R = 9218868437227405312) := up14 _ _ fun w => by
  have g := f_eq (x := 9218868437227405312) (y := 4602678819172646912) (by decide) (by decide)
  rw [show decide (Fp.ky 9218868437227405312 = Fp.ky 4602678819172646912) = false by decide] at g
  refine (log2_at 9218868437227405312 9218868437227405312 9218868437227405312 0 (by omega) w (frexpSame _ (by omega) (.inr (by decide)) w) g (arch_top (by omega) (by omega)) (m := 9218868437227405312) (R := 9218868437227405312) (by decide) (by decide)).mono ?_
  rintro _ _ ⟨rfl, rfl⟩
  exact ⟨_, rfl, rfl, Below.refl _ _⟩
set_option maxHeartbeats 2000000 in
theorem log2_neg (x : Nat) (hx : x < 18446744073709551616) (hf : Fp.rg x < 9218868437227405312) (h0 : Fp.rg x ≠ 0) (hs : Fp.sg x = true) (w : World) :
    Calls Try.prog 17 #[.float .f64 x] w fun e w' => ∃ R, e = .returned (.float .f64 R) ∧ IsNan R ∧ Below w.heap.size w w' := by
  have HF := Lib.hid (frexp20 x hx hf h0 w)
  clear hf h0
  go_enter Try.func17, Try.ntmps17
  go_wp2_with fail
  refine HF.out.mono ?_
  rintro _ _ ⟨M, t, j, rfl, h1, h2, h3, h4, rfl⟩
  rw [hs]
  have hwd : Fp.wd true (1022 * 4503599627370496 + M) = 9223372036854775808 + (1022 * 4503599627370496 + M) := rfl
  have g := f_eq (x := Fp.wd true (1022 * 4503599627370496 + M)) (y := 4602678819172646912) (wd_nn (by omega)) (by decide)
  rw [ky_wd (by omega), show Fp.ky 4602678819172646912 = 4602678819172646912 by decide, if_pos rfl, decide_eq_false (by omega)] at g
  have HL := Lib.hid (log21 (Fp.wd true (1022 * 4503599627370496 + M)) _ (arch_neg (by rw [hwd]; omega) (by rw [hwd]; omega)) w)
  have hm := fun (t : TypeId) (W : World) => run_float_nan (P := Try.prog) W .mul t 9221120237041090561 4609176140021203710 (by simp) (show floatBits .mul .f64 9221120237041090561 4609176140021203710 = none from mul_nan (by decide))
  have ha := fun (t : TypeId) (W : World) (q : Nat) => run_float_nan (P := Try.prog) W .add t (nanOf q) (floatOfInt .f64 j) (by simp) (show floatBits .add .f64 (nanOf q) (floatOfInt .f64 j) = none from add_nan (isNan_nan (nanOf_isNan q)))
  have hj1 : -1073 ≤ j := by omega
  have hj2 : j ≤ 1024 := by omega
  generalize Fp.wd true (1022 * 4503599627370496 + M) = F at *
  clear h1 h2 h3 h4 hwd HF
  go_wp2_with (go_at_call 21; (with_reducible refine HL.out.mono ?_); rintro _ _ ⟨rfl, rfl⟩)
  go_ret
  exact ⟨_, rfl, nanOf_isNan _, by go_grown⟩
theorem give_nan (x : Nat) (hx : x < 18446744073709551616) (h : Fp.nan x ∨ (Fp.sg x = true ∧ Fp.rg x ≠ 0)) : Gives 14 x IsNan := up14 x _ fun w => by
  have ha : ∀ j : Int, ∀ y, IsNan y → Ieee.double.add y (Fp.iw j) = none := fun j y hy => add_nan (isNan_nan hy)
  by_cases hf : Fp.rg x < 9218868437227405312
  · have hs : Fp.sg x = true ∧ Fp.rg x ≠ 0 := h.resolve_left (by unfold Fp.nan; omega)
    exact log2_neg x hx hf hs.2 hs.1 w
  · have HF := frexpSame x hx (.inr (by omega)) w
    by_cases hn : Fp.nan x
    · have g := n_eq (x := x) (y := 4602678819172646912) (.inl hn)
      by_cases hp : x < 9223372036854775808
      · exact log2_nan x x x 0 (by omega) w HF g (arch_top (by have := Fp.rg_pos hp; omega) hp) (mul_nan hn) (ha 0)
      · exact log2_nan x x _ 0 (by omega) w HF g (arch_neg (by unfold Fp.rg at hf; omega) (by omega)) (mul_nan (by decide)) (ha 0)
    · have hs := (h.resolve_left hn).1
      have hr : Fp.rg x = 9218868437227405312 := by unfold Fp.nan at hn; omega
      have hp : 9223372036854775808 ≤ x := by
        false_or_by_contra
        rw [Fp.sg_pos (by omega)] at hs; cases hs
      have g := f_eq (x := x) (y := 4602678819172646912) hn (by decide)
      rw [ky_val x, hs, hr, show Fp.ky 4602678819172646912 = 4602678819172646912 by decide, if_pos rfl, decide_eq_false (by omega)] at g
      exact log2_nan x x _ 0 (by omega) w HF g (arch_neg (by unfold Fp.rg at hr; omega) hp) (mul_nan (by decide)) (ha 0)
set_option maxHeartbeats 4000000 in
theorem walkNan (x : Nat) (hx : x < 18446744073709551616) (h : Fp.nan x ∨ (Fp.sg x = true ∧ Fp.rg x ≠ 0)) (w : World) :
    Calls Try.prog 3 #[.float .f64 x] w fun e w' => e = .returned (.bool true) ∧ Below w.heap.size w w' := by
  have HG := Lib.hid (give_nan x hx h)
  have HC : Hid ((FloatKind.f64.format.order x x != some .eq) = true ∨ ((FloatKind.f64.format.order x x != some .eq) = false ∧ (FloatKind.f64.format.order x 0 == some .lt) = true)) := by
    by_cases hn : Fp.nan x
    · exact .inl (n_ne (.inl hn))
    · obtain ⟨hs, hr⟩ := h.resolve_left hn
      refine .inr ⟨s_ne hn, ?_⟩
      rw [f_lt hn zero_nn, ky_zero, ky_val, hs, if_pos rfl, decide_eq_true (by omega)]
  clear h
  go_enter Try.func3, Try.ntmps3
  go_wp2_with fail
  refine (new5 _ _).mono ?_
  rintro e w1 ⟨rfl, hb1⟩
  have HB1 := Lib.hid hb1
  clear hb1
  go_wp2_with fail
  refine (log6 x _ HG.out _).mono ?_
  rintro e w2 ⟨R, rfl, hQ, hb2⟩
  have hR := n_ne (x := R) (y := R) (.inl (isNan_nan hQ))
  have HB2 := Lib.hid (HB1.out.trans (hb2.mono HB1.out.size))
  clear hb2 hQ
  go_wp2_with fail
  refine (val7 R _).mono ?_
  rintro e w3 ⟨rfl, hb3⟩
  have HB3 := Lib.hid (HB2.out.trans (hb3.mono HB2.out.size))
  clear hb3 HB1 HB2 HG
  rcases HC.out with c | ⟨c, c2⟩
  · clear HC
    go_wp2_with fail
    go_ret
    exact ⟨rfl, HB3.out⟩
  · clear HC
    go_wp2_with fail
    go_ret
    exact ⟨rfl, HB3.out⟩
set_option maxHeartbeats 4000000 in
theorem walkZero (x : Nat) (hx : x < 18446744073709551616) (h : Fp.rg x = 0) (w : World) :
    Calls Try.prog 3 #[.float .f64 x] w fun e w' => e = .returned (.bool true) ∧ Below w.heap.size w w' := by
  have HG := Lib.hid (give_zero x hx h)
  have hn : ¬ Fp.nan x := by unfold Fp.nan; omega
  have g1 := s_ne hn
  have g2 := f_lt hn zero_nn
  have k0 : Fp.ky x = 0 := by unfold Fp.ky Fp.key Fp.sn; rw [h]; split <;> rfl
  rw [k0, ky_zero, decide_eq_false (by omega)] at g2
  have g3 := ord_zero' h
  have g4 := f_lt (x := 18442240474082181120) (y := 18442240474082181119) (by decide) (by decide)
  rw [show decide (Fp.ky 18442240474082181120 < Fp.ky 18442240474082181119) = true by decide] at g4
  clear h hn k0
  go_enter Try.func3, Try.ntmps3
  go_wp2_with fail
  refine (new5 _ _).mono ?_
  rintro e w1 ⟨rfl, hb1⟩
  have HB1 := Lib.hid hb1
  clear hb1
  go_wp2_with fail
  refine (log6 x _ HG.out _).mono ?_
  rintro e w2 ⟨R, rfl, rfl, hb2⟩
  have HB2 := Lib.hid (HB1.out.trans (hb2.mono HB1.out.size))
  clear hb2
  go_wp2_with fail
  refine (val7 _ _).mono ?_
  rintro e w3 ⟨rfl, hb3⟩
  have HB3 := Lib.hid (HB2.out.trans (hb3.mono HB2.out.size))
  clear hb3 HB1 HB2 HG
  go_wp2_with fail
  go_ret
  exact ⟨rfl, HB3.out⟩
set_option maxHeartbeats 4000000 in
theorem walkInf (w : World) :
    Calls Try.prog 3 #[.float .f64 9218868437227405312] w fun e w' => e = .returned (.bool true) ∧ Below w.heap.size w w' := by
  have g1 := s_ne (x := 9218868437227405312) (by decide)
  have g2 := f_lt (x := 9218868437227405312) (y := 0) (by decide) zero_nn
  rw [show decide (Fp.ky 9218868437227405312 < Fp.ky 0) = false by decide] at g2
  have g3 := f_eq (x := 9218868437227405312) (y := 0) (by decide) zero_nn
  rw [show decide (Fp.ky 9218868437227405312 = Fp.ky 0) = false by decide] at g3
  have g4 := f_gt (x := 9218868437227405312) (y := 9218868437227405311) (by decide) (by decide)
  rw [show decide (Fp.ky 9218868437227405311 < Fp.ky 9218868437227405312) = true by decide] at g4
  go_enter Try.func3, Try.ntmps3
  go_wp2_with fail
  refine (new5 _ _).mono ?_
  rintro e w1 ⟨rfl, hb1⟩
  have HB1 := Lib.hid hb1
  clear hb1
  go_wp2_with fail
  refine (log6 _ _ give_inf _).mono ?_
  rintro e w2 ⟨R, rfl, rfl, hb2⟩
  have HB2 := Lib.hid (HB1.out.trans (hb2.mono HB1.out.size))
  clear hb2
  go_wp2_with fail
  refine (val7 _ _).mono ?_
  rintro e w3 ⟨rfl, hb3⟩
  have HB3 := Lib.hid (HB2.out.trans (hb3.mono HB2.out.size))
  clear hb3 HB1 HB2
  go_wp2_with fail
  go_ret
  exact ⟨rfl, HB3.out⟩
theorem walk (a0 : Nat) (w : World) (w0 : (Lit.float .f64 a0).wf = true) :
    Calls Try.prog 3 #[.float .f64 a0] w fun e w' => e = .returned (.bool true) ∧ Below w.heap.size w w' := by
  have hx := f64_range w0
  by_cases hn : Fp.nan a0
  · exact walkNan a0 hx (.inl hn) w
  · by_cases hz : Fp.rg a0 = 0
    · exact walkZero a0 hx hz w
    · by_cases hp : a0 < 9223372036854775808
      · have e : Fp.rg a0 = a0 := Fp.rg_pos hp
        by_cases hi : a0 = 9218868437227405312
        · subst hi; exact walkInf w
        · exact walkPos a0 (by omega) (by unfold Fp.nan at hn; omega) w
      · exact walkNan a0 hx (.inr ⟨by unfold Fp.sg; rw [show a0 / 9223372036854775808 = 1 by omega]; rfl, hz⟩) w
end Go.Proofs.Ytkdlfggghgchjaa.fnLog2TableAndOctaveBound
