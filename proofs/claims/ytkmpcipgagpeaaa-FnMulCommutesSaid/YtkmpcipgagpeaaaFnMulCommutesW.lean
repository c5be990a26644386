/-
  What the law FnMulCommutes does, for every input. No condition.
-/
import Derived.Test.YtkmpcipgagpeaaaProg
import Derived.Test.YtkmpcipgagpeaaaFord
import Derived.Test.YtkmpcipgagpeaaaKit
namespace Go.Proofs.Ytkmpcipgagpeaaa.fnMulCommutes
open Go.ChangeShapes Go.WideShapes Go.ChangeAt Go.RowKit
set_option linter.unusedVariables false

theorem sameb8_nan (x y : Nat) (hx : Fp.nan x) (hy : Fp.nan y) (w : World) :
    Calls Try.prog 13 #[.float .f64 x, .float .f64 y] w fun e w' => e = .returned (.bool true) ∧ w = w' := by
  have h1 : (FloatKind.f64.format.order x x != some .eq) = true := by rw [ord_nan (.inl hx)]; rfl
  have h2 : (FloatKind.f64.format.order y y != some .eq) = true := by rw [ord_nan (.inl hy)]; rfl
  clear hx hy
  go_enter Try.func13, Try.ntmps13
  go_wp2
  go_ret
  exact ⟨rfl, rfl⟩
theorem sameb8 (x : Nat) (h : ¬ Fp.nan x) (w : World) :
    Calls Try.prog 13 #[.float .f64 x, .float .f64 x] w fun e w' => e = .returned (.bool true) ∧ w = w' := by
  have h1 : (FloatKind.f64.format.order x x != some .eq) = false := by rw [ord_refl h]; rfl
  by_cases h0 : Fp.rg x = 0
  · have h3 := ord_zero' h0
    have h4 : (FloatKind.f64.format.order (Fp.wd (Fp.sg x) 9218868437227405312) (Fp.wd (Fp.sg x) 9218868437227405312) == some .eq) = true := by rw [ord_refl (inf_not_nan _)]; rfl
    have hr2 := fun W : World => run_float_arith (P := Try.prog) W .quo 25 .f64 _ _ _ (show floatBits .quo .f64 4607182418800017408 x = _ from Fp.one_over_zero h0)
    generalize Fp.wd (Fp.sg x) 9218868437227405312 = r at hr2 h4
    clear h0 h
    go_enter Try.func13, Try.ntmps13
    go_wp2
    all_goals (go_ret; exact ⟨rfl, rfl⟩)
  · have h3 := ord_zero h h0
    clear h0 h
    go_enter Try.func13, Try.ntmps13
    go_wp2
    all_goals (go_ret; exact ⟨rfl, rfl⟩)
theorem c_mul (a b : Nat) (w : World) : Calls Try.prog 11 #[.agg #[.float .f64 a], .agg #[.float .f64 b]] w (GivesF (FRes .mul a b) w) := by
  rcases h : floatBits .mul .f64 a b with _ | r
  · have hr := fun W : World => run_float_nan (P := Try.prog) W .mul 25 a b (by simp) h
    have h0 := Lib.hid h; clear h
    go_enter Try.func11, Try.ntmps11
    go_wp2
    exact bodyPost_ret (by simp [results, Try.results11, go_sem]; rfl) rfl ⟨_, .inr ⟨h0.out, nanOf_isNan _, nanOf_lt _⟩, rfl, by go_grown⟩
  · have hr := fun W : World => run_float_arith (P := Try.prog) W .mul 25 .f64 a b r h
    have h0 := Lib.hid h; clear h
    go_enter Try.func11, Try.ntmps11
    go_wp2
    exact bodyPost_ret (by simp [results, Try.results11, go_sem]) rfl ⟨_, .inl h0.out, rfl, by go_grown⟩
theorem mul_not_nan {a b r : Nat} (h : floatBits .mul .f64 a b = some r) : ¬ Fp.nan r := by
  have h : (Ieee.double.mul a b) = some r := h
  unfold Ieee.Format.mul at h
  rcases hp : (Ieee.double.read a).product (Ieee.double.read b) with _ | d
  · rw [hp] at h; cases h
  · rw [hp] at h
    simp only [Option.map_some, Option.some.injEq] at h
    subst h
    refine Fp.write_not_nan ?_
    generalize Ieee.double.read a = x at hp
    generalize Ieee.double.read b = y at hp
    cases x <;> cases y <;> simp only [Ieee.Datum.product] at hp <;> (first | (cases hp; rfl) | (split at hp <;> cases hp; rfl) | cases hp)
theorem sameb8_res {a b x y : Nat} (hx : FRes .mul a b x) (hy : FRes .mul b a y) (w : World) :
    Calls Try.prog 13 #[.float .f64 x, .float .f64 y] w fun e w' => e = .returned (.bool true) ∧ w = w' := by
  have hc : floatBits .mul .f64 b a = floatBits .mul .f64 a b := Fp.mul_comm' b a
  unfold FRes at hx hy
  rw [hc] at hy
  rcases hx with hx | ⟨hx, nx, _⟩ <;> rcases hy with hy | ⟨hy, ny, _⟩
  · rw [hx] at hy; cases hy; exact sameb8 x (mul_not_nan hx) w
  · rw [hx] at hy; cases hy
  · rw [hx] at hy; cases hy
  · exact sameb8_nan x y (isNan_nan nx) (isNan_nan ny) w
theorem walk (a0 : Nat) (a1 : Nat) (w : World) (w0 : (Lit.float .f64 a0).wf = true) (w1 : (Lit.float .f64 a1).wf = true) :
    Calls Try.prog 4 #[.float .f64 a0, .float .f64 a1] w fun e w' => e = .returned (.bool true) ∧ Below w.heap.size w w' := by
  go_enter Try.func4, Try.ntmps4
  go_wp2_with (first | (go_at_call 11; refine (c_mul _ _ _).mono ?_; rintro e w' ⟨r, hr, rfl, hb⟩; obtain ⟨hb, hz⟩ := below_step (B := w.heap.size) (w0 := w) hb (by go_grown) (by go_size)) | (go_at_call 13; refine (sameb8_res (by assumption) (by assumption) _).mono ?_; rintro e w' ⟨rfl, rfl⟩) | go_in)
  go_ret
  exact ⟨rfl, by go_grown⟩
end Go.Proofs.Ytkmpcipgagpeaaa.fnMulCommutes
