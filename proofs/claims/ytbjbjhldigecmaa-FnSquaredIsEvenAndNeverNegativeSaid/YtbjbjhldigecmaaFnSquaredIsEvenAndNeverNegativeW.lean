/-
  What the law FnSquaredIsEvenAndNeverNegative does, for every input. No condition.
-/
import Derived.Test.YtbjbjhldigecmaaExt
import Derived.Test.YtbjbjhldigecmaaKit
import Derived.WalkSmall
namespace Go.Proofs.Ytbjbjhldigecmaa.fnSquaredIsEvenAndNeverNegative
open Go.ChangeShapes Go.WideShapes Go.ChangeAt Go.RowKit
set_option linter.unusedVariables false


/-- What Squared gives. -/
theorem sq (a : Nat) (w : World) : Calls Try.prog 15 #[.agg #[.float .f64 a]] w (GivesF (FRes .mul a a) w) := by
  rcases h : floatBits .mul .f64 a a with _ | r
  · have hr := fun (t : TypeId) (W : World) => run_float_nan (P := Try.prog) W .mul t a a (by simp) h
    have h0 := Lib.hid h; clear h
    go_enter Try.func15, Try.ntmps15
    go_wp2
    exact bodyPost_ret (by simp [results, Try.results15, go_sem]; rfl) rfl ⟨_, .inr ⟨h0.out, nanOf_isNan _, nanOf_lt _⟩, rfl, by go_grown⟩
  · have hr := fun (t : TypeId) (W : World) => run_float_arith (P := Try.prog) W .mul t .f64 a a r h
    have h0 := Lib.hid h; clear h
    go_enter Try.func15, Try.ntmps15
    go_wp2
    exact bodyPost_ret (by simp [results, Try.results15, go_sem]) rfl ⟨_, .inl h0.out, rfl, by go_grown⟩

/-- The square of a number that is no NaN: a word of positive sign, the same for the mirrored number. -/
theorem sq_val {x : Nat} (hlt : x < 18446744073709551616) (h : ¬ Fp.nan x) : ∃ r, r ≤ 9218868437227405312 ∧ floatBits .mul .f64 x x = some r ∧ floatBits .mul .f64 (Op.negFloat .f64 x) (Op.negFloat .f64 x) = some r := by
  show ∃ r, r ≤ 9218868437227405312 ∧ Ieee.double.mul x x = some r ∧ Ieee.double.mul (x ^^^ 9223372036854775808) (x ^^^ 9223372036854775808) = some r
  by_cases hf : Fp.fin x
  · have hf2 : Fp.fin (x ^^^ 9223372036854775808) := by unfold Fp.fin; rw [Fp.rg_neg hlt]; exact hf
    rw [Fp.mul_spec hf hf, Fp.mul_spec hf2 hf2, Fp.rg_neg hlt, Bool.xor_self, Bool.xor_self]
    obtain ⟨r, hr, e⟩ := Fp.nearest_form false (Fp.N (Fp.rg x) * Fp.N (Fp.rg x)) (-2148)
    rw [e]
    exact ⟨r, hr, rfl, rfl⟩
  · have hr : Fp.rg x = 9218868437227405312 := by unfold Fp.fin at hf; unfold Fp.nan at h; omega
    unfold Ieee.Format.mul
    rw [Fp.read_neg hlt, Fp.read_eq x, hr, Fp.dec_inf]
    simp only [Ieee.Datum.opposite, Ieee.Datum.product, Bool.xor_self, Option.map_some, Ieee.Format.write, Fp.word_eq, Fp.e_inf]
    exact ⟨_, Nat.le_refl _, rfl, rfl⟩

theorem isNan_yes {x : Nat} (h : Fp.nan x) (w : World) : Calls Try.prog 16 #[.float .f64 x] w fun e w' => e = .returned (.bool true) ∧ w = w' := by
  have h1 := n_ne (x := x) (y := x) (.inl h)
  go_enter Try.func16, Try.ntmps16
  go_wp2
  go_ret
  exact ⟨rfl, rfl⟩
theorem isNan_no {x : Nat} (h : ¬ Fp.nan x) (w : World) : Calls Try.prog 16 #[.float .f64 x] w fun e w' => e = .returned (.bool false) ∧ w = w' := by
  have h1 := s_ne h
  go_enter Try.func16, Try.ntmps16
  go_wp2
  go_ret
  exact ⟨rfl, rfl⟩
theorem signNeg_no {r : Nat} (h : r ≤ 9218868437227405312) (w : World) : Calls Try.prog 18 #[.float .f64 r] w fun e w' => e = .returned (.bool false) ∧ w = w' := by
  have hw : Fp.wd false r = r := rfl
  have hn : ¬ Fp.nan r := hw ▸ nan_wd (s := false) h
  have hk : Fp.ky r = r := hw ▸ ky_wd (s := false) (r := r) (by omega)
  have h1 : (FloatKind.f64.format.order r 0 == some .lt) = false := by rw [f_lt hn zero_nn, ky_zero, hk]; simp
  by_cases h0 : r = 0
  · subst h0
    have h5 : (FloatKind.f64.format.order 0 0 == some .eq) = true := by rw [f_eq zero_nn zero_nn]; simp
    have h7 := fun (t : TypeId) (W : World) => run_float_arith (P := Try.prog) W .quo t .f64 _ _ _ (show floatBits .quo .f64 4607182418800017408 0 = some 9218868437227405312 from by decide)
    have h8 : (FloatKind.f64.format.order 9218868437227405312 0 == some .lt) = false := by decide
    clear hn hk hw h
    go_enter Try.func18, Try.ntmps18
    go_wp2
    go_ret
    exact ⟨rfl, rfl⟩
  · have h5 : (FloatKind.f64.format.order r 0 == some .eq) = false := by rw [f_eq hn zero_nn, ky_zero, hk]; simpa using h0
    clear hn hk hw h h0
    go_enter Try.func18, Try.ntmps18
    go_wp2
    go_ret
    exact ⟨rfl, rfl⟩
theorem same_self {r : Nat} (h : r ≤ 9218868437227405312) (w : World) : Calls Try.prog 17 #[.float .f64 r, .float .f64 r] w fun e w' => e = .returned (.bool true) ∧ w = w' := by
  have hw : Fp.wd false r = r := rfl
  have hn : ¬ Fp.nan r := hw ▸ nan_wd (s := false) h
  have hk : Fp.ky r = r := hw ▸ ky_wd (s := false) (r := r) (by omega)
  have h1 := s_ne hn
  by_cases h0 : (FloatKind.f64.format.order r 0 == some .eq) = true
  · clear hk hw
    go_enter Try.func17, Try.ntmps17
    go_wp2_with (first | (go_at_call 16; (with_reducible refine (isNan_no hn _).mono ?_); rintro e w' ⟨rfl, rfl⟩) | (go_at_call 18; (with_reducible refine (signNeg_no h _).mono ?_); rintro e w' ⟨rfl, rfl⟩))
    go_ret
    exact ⟨rfl, rfl⟩
  · have h0 : (FloatKind.f64.format.order r 0 == some .eq) = false := by simpa using h0
    clear hk hw
    go_enter Try.func17, Try.ntmps17
    go_wp2_with (first | (go_at_call 16; (with_reducible refine (isNan_no hn _).mono ?_); rintro e w' ⟨rfl, rfl⟩) | (go_at_call 18; (with_reducible refine (signNeg_no h _).mono ?_); rintro e w' ⟨rfl, rfl⟩))
    go_ret
    exact ⟨rfl, rfl⟩

theorem mul_nan {x : Nat} (h : Fp.nan x) : floatBits .mul .f64 x x = none := by
  show Ieee.double.mul x x = none
  unfold Ieee.Format.mul
  rw [Fp.read_eq x, Fp.dec_nan h]; rfl
theorem fres_nan {x r : Nat} (h : Fp.nan x) (hr : FRes .mul x x r) : Fp.nan r := by
  rcases hr with hr | ⟨_, hn, _⟩
  · rw [mul_nan h] at hr; cases hr
  · exact isNan_nan hn
theorem fres_val {x q r : Nat} (h : floatBits .mul .f64 x x = some q) (hr : FRes .mul x x r) : r = q := by
  rcases hr with hr | ⟨hr, _⟩
  · rw [h] at hr; cases hr; rfl
  · rw [h] at hr; cases hr

theorem walk (a0 : Nat) (w : World) (w0 : (Lit.float .f64 a0).wf = true) :
    Calls Try.prog 4 #[.float .f64 a0] w fun e w' => e = .returned (.bool true) ∧ Below w.heap.size w w' := by
  have hlt := f64_range w0
  clear w0
  by_cases h : Fp.nan a0
  · have hm := nan_neg h
    clear hlt
    go_enter Try.func4, Try.ntmps4
    go_wp2_with (first | (go_at_call 15; refine (sq _ _).mono ?_; rintro e w' ⟨r, hr, rfl, hb⟩; replace hr := fres_nan (by assumption) hr; obtain ⟨hb, hz⟩ := below_step (B := w.heap.size) (w0 := w) hb (by go_grown) (by go_size)) | (go_at_call 16; (with_reducible refine (isNan_yes (by assumption) _).mono ?_); rintro e w' ⟨rfl, rfl⟩) | go_in)
    go_ret
    exact ⟨rfl, by go_grown⟩
  · obtain ⟨q, hq, e1, e2⟩ := sq_val hlt h
    have E1 := Lib.hid e1
    have E2 := Lib.hid e2
    have hw : Fp.wd false q = q := rfl
    have hn : ¬ Fp.nan q := hw ▸ nan_wd (s := false) hq
    clear hlt hw e1 e2
    go_enter Try.func4, Try.ntmps4
    go_wp2_with (first | (go_at_call 15; refine (sq _ _).mono ?_; rintro e w' ⟨r, hr, rfl, hb⟩; (first | obtain rfl := fres_val E1.out hr | obtain rfl := fres_val E2.out hr); obtain ⟨hb, hz⟩ := below_step (B := w.heap.size) (w0 := w) hb (by go_grown) (by go_size)) | (go_at_call 16; (with_reducible refine (isNan_no (by assumption) _).mono ?_); rintro e w' ⟨rfl, rfl⟩) | (go_at_call 17; (with_reducible refine (same_self (by assumption) _).mono ?_); rintro e w' ⟨rfl, rfl⟩) | (go_at_call 18; (with_reducible refine (signNeg_no (by assumption) _).mono ?_); rintro e w' ⟨rfl, rfl⟩) | go_in)
    go_ret
    exact ⟨rfl, by go_grown⟩
end Go.Proofs.Ytbjbjhldigecmaa.fnSquaredIsEvenAndNeverNegative
