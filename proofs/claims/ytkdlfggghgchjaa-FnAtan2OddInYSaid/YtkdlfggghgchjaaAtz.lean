/-
  What the law FnAtan2OddInY does, for every input. No condition.
-/
import Derived.Test.YtkdlfggghgchjaaAtu
import Derived.Test.YtkdlfggghgchjaaKit
import Derived.WalkSmall
namespace Go.Proofs.Ytkdlfggghgchjaa
open Go.ChangeShapes Go.WideShapes Go.ChangeAt Go.RowKit
set_option linter.unusedVariables false
set_option exponentiation.threshold 2000

theorem new5 (x : Nat) (w : World) : Calls Try.prog 5 #[.float .f64 x] w fun e w' => e = .returned (.agg #[.float .f64 x]) ∧ Below w.heap.size w w' := by
  go_enter Try.func5, Try.ntmps5
  go_wp2
  exact bodyPost_ret (by simp [results, Try.results5, go_sem]) rfl ⟨rfl, by go_grown⟩
theorem val7 (x : Nat) (w : World) : Calls Try.prog 7 #[.agg #[.float .f64 x]] w fun e w' => e = .returned (.float .f64 x) ∧ Below w.heap.size w w' := by
  go_enter Try.func7, Try.ntmps7
  go_wp2
  go_ret
  exact ⟨rfl, by go_grown⟩
theorem at10 (y x R : Nat) (h : ∀ w, Calls Try.prog 15 #[.float .f64 y, .float .f64 x] w fun e w' => e = .returned (.float .f64 R) ∧ w = w') (w : World) :
    Calls Try.prog 10 #[.agg #[.float .f64 y], .agg #[.float .f64 x]] w fun e w' => e = .returned (.agg #[.float .f64 R]) ∧ Below w.heap.size w w' := by
  have H := Lib.hid h
  clear h
  go_enter Try.func10, Try.ntmps10
  go_wp2_with fail
  refine (H.out _).mono ?_
  rintro e w1 ⟨rfl, rfl⟩
  go_wp2_with fail
  refine (new5 _ _).mono ?_
  rintro e w2 ⟨rfl, hb⟩
  have c2 : w2.cell? ⟨w.heap.size + 1 + 1, 0, none⟩ = some (.float .f64 0) := by
    rw [hb.cell (p := ⟨w.heap.size + 1 + 1, 0, none⟩) (by simp)]; simp [go_sem]
  have f2 : w2.frozen? ⟨w.heap.size + 1 + 1, 0, none⟩ = false := by
    rw [hb.frozen (p := ⟨w.heap.size + 1 + 1, 0, none⟩) (by simp)]; simp [go_sem]
  have B2 : Hid (Below w.heap.size w w2) := ((((Below.refl _ w).alloc (Nat.le_refl _) _).alloc (by simp) _).alloc (by simp; omega) _).trans (hb.mono (by simp; omega))
  clear hb
  go_wp2_with fail
  exact bodyPost_ret (by simp [results, Try.results10, go_sem, c2]) rfl ⟨rfl, B2.out.setCell (p := ⟨w.heap.size + 1 + 1, 0, none⟩) (by simp; omega) _⟩
theorem isNan12 (x : Nat) (b : Bool) (h : decide (Fp.nan x) = b) (w : World) : Calls Try.prog 12 #[.float .f64 x] w fun e w' => e = .returned (.bool b) ∧ w = w' := by
  subst h
  by_cases h : Fp.nan x
  · have := n_ne (x := x) (y := x) (.inl h)
    go_enter Try.func12, Try.ntmps12
    go_wp2_with fail
    go_ret
    exact ⟨by simp [h], rfl⟩
  · have := s_ne h
    go_enter Try.func12, Try.ntmps12
    go_wp2_with fail
    go_ret
    exact ⟨by simp [h], rfl⟩
theorem sub_self {x : Nat} (h : Fp.fin x) : ∃ r, Ieee.double.sub x x = some r ∧ (FloatKind.f64.format.order r r != some .eq) = false := by
  obtain ⟨r, e, n⟩ := Fp.fsub h h
  exact ⟨r, e, s_ne n.nn⟩
theorem sub_inf {x : Nat} (h : Fp.rg x = 9218868437227405312) : Ieee.double.sub x x = none := by
  unfold Ieee.Format.sub
  rw [Fp.read_eq, h, Fp.dec_inf]; cases Fp.sg x <;> rfl
theorem isInf9 (x : Nat) (hn : ¬ Fp.nan x) (b : Bool) (hb : decide (Fp.rg x = 9218868437227405312) = b) (w : World) : Calls Try.prog 9 #[.float .f64 x] w fun e w' => e = .returned (.bool b) ∧ Below w.heap.size w w' := by
  have HN := Lib.hid (isNan12 x false (decide_eq_false hn) w)
  cases b
  · have hf : Fp.fin x := by have := of_decide_eq_false hb; unfold Fp.fin; unfold Fp.nan at hn; omega
    obtain ⟨r, e, hr⟩ := sub_self hf
    have e1 := fun (t : TypeId) (W : World) => run_float_arith (P := Try.prog) W .sub t .f64 _ _ _ (show floatBits .sub .f64 x x = some r from e)
    clear e hb hn hf
    go_enter Try.func9, Try.ntmps9
    go_wp2_with (go_at_call 12; (with_reducible refine HN.out.mono ?_); rintro _ _ ⟨rfl, rfl⟩)
    go_ret
    exact ⟨rfl, Below.refl _ _⟩
  · have e := sub_inf (of_decide_eq_true hb)
    have e1 := fun (t : TypeId) (W : World) => run_float_nan (P := Try.prog) W .sub t x x (by simp) e
    have hq := fun r => n_ne (x := nanOf r) (y := nanOf r) (.inl (isNan_nan (nanOf_isNan r)))
    clear e hb hn
    go_enter Try.func9, Try.ntmps9
    go_wp2_with (go_at_call 12; (with_reducible refine HN.out.mono ?_); rintro _ _ ⟨rfl, rfl⟩)
    go_ret
    exact ⟨rfl, (Below.refl _ _).drew⟩
theorem sign13 (x : Nat) (hx : x < 18446744073709551616) (hn : ¬ Fp.nan x) (b : Bool) (hb : Fp.sg x = b) (w : World) : Calls Try.prog 13 #[.float .f64 x] w fun e w' => e = .returned (.bool b) ∧ w = w' := by
  subst hb
  by_cases h0 : Fp.rg x = 0
  · have o1 := ord_zero' h0
    have o2 : (FloatKind.f64.format.order x 0 == some .lt) = false := by
      have : Fp.ky x = 0 := by rw [ky_val, h0]; cases Fp.sg x <;> rfl
      rw [f_lt hn zero_nn, this]; rfl
    have e1 := fun (t : TypeId) (W : World) => run_float_arith (P := Try.prog) W .quo t .f64 _ _ _ (show floatBits .quo .f64 4607182418800017408 x = _ from Fp.one_over_zero h0)
    have o3 := (ord0 (x := Fp.wd (Fp.sg x) 9218868437227405312) (wd_not_nan (by omega)) (by rw [Fp.rg_wd (by omega)]; omega)).2.1
    rw [Fp.sg_wd (by omega)] at o3
    generalize Fp.wd (Fp.sg x) 9218868437227405312 = z at *
    generalize Fp.sg x = s at *
    clear h0 hn hx
    cases s <;>
    · go_enter Try.func13, Try.ntmps13
      go_wp2_with fail
      go_ret
      exact ⟨rfl, rfl⟩
  · obtain ⟨o1, o2, _⟩ := ord0 hn h0
    generalize Fp.sg x = s at *
    clear h0 hn hx
    cases s <;>
    · go_enter Try.func13, Try.ntmps13
      go_wp2_with fail
      go_ret
      exact ⟨rfl, rfl⟩
theorem same11 (x : Nat) (hx : x < 18446744073709551616) (hn : ¬ Fp.nan x) (w : World) : Calls Try.prog 11 #[.float .f64 x, .float .f64 x] w fun e w' => e = .returned (.bool true) ∧ w = w' := by
  have HN := Lib.hid (fun W => isNan12 x false (decide_eq_false hn) W)
  have HS := Lib.hid (fun W => sign13 x hx hn _ rfl W)
  have o := ord_refl hn
  generalize Fp.sg x = s at *
  have hs : (s == s) = true := by cases s <;> rfl
  by_cases h0 : Fp.rg x = 0
  · have o1 := ord_zero' h0
    clear h0 hn hx
    cases s <;>
    · go_enter Try.func11, Try.ntmps11
      go_wp2_with (first
        | (go_at_call 12; (with_reducible refine (HN.out _).mono ?_); rintro _ _ ⟨rfl, rfl⟩)
        | (go_at_call 13; (with_reducible refine (HS.out _).mono ?_); rintro _ _ ⟨rfl, rfl⟩))
      go_ret
      exact ⟨rfl, rfl⟩
  · have o1 := ord_zero hn h0
    clear h0 hn hx
    go_enter Try.func11, Try.ntmps11
    go_wp2_with (first
      | (go_at_call 12; (with_reducible refine (HN.out _).mono ?_); rintro _ _ ⟨rfl, rfl⟩)
      | (go_at_call 13; (with_reducible refine (HS.out _).mono ?_); rintro _ _ ⟨rfl, rfl⟩))
    go_ret
    exact ⟨rfl, rfl⟩
theorem same11n (x y : Nat) (hx : Fp.nan x) (hy : Fp.nan y) (w : World) : Calls Try.prog 11 #[.float .f64 x, .float .f64 y] w fun e w' => e = .returned (.bool true) ∧ w = w' := by
  have HN := Lib.hid (fun W => isNan12 x true (decide_eq_true hx) W)
  have HM := Lib.hid (fun W => isNan12 y true (decide_eq_true hy) W)
  clear hx hy
  go_enter Try.func11, Try.ntmps11
  go_wp2_with (first
    | (go_at_call 12; (with_reducible refine (HN.out _).mono ?_); rintro _ _ ⟨rfl, rfl⟩)
    | (go_at_call 12; (with_reducible refine (HM.out _).mono ?_); rintro _ _ ⟨rfl, rfl⟩))
  go_ret
  exact ⟨rfl, rfl⟩
/-- Nothing below B has turned, and the memory has not shrunk. -/
abbrev Bl (w w' : World) : Prop := Below w.heap.size w w'
theorem Bl.dr {w W : World} (b : Hid (Bl w W)) : Hid (Bl w W.drew) := Lib.hid b.out.drew
theorem Bl.step {w W w' : World} (h : Bl W w') (b : Hid (Bl w W)) : Hid (Bl w w') := Lib.hid (b.out.trans (h.mono b.out.size))
end Go.Proofs.Ytkdlfggghgchjaa
