/-
  The contract of ToInt32, ToUint32. No condition.
-/
import Derived.Test.YtfacphjjmmfegaaMod
namespace Go.Proofs.Ytfacphjjmmfegaa
open Go.ChangeShapes Go.WideShapes Go.ChangeAt Go.RowKit
set_option linter.unusedVariables false

/-- The value that ToInt32 gives. -/
def i32of (f : Nat) : Int := if Fp.fin f then IntKind.i32.wrap (Fp.sn (Fp.sg f) (Fp.tr f)) else 0

theorem conv_in {f : Nat} {k : IntKind} (hf : Fp.fin f) (h1 : k.min ≤ Fp.sn (Fp.sg f) (Fp.tr f)) (h2 : Fp.sn (Fp.sg f) (Fp.tr f) ≤ k.max) : floatToIntVal .f64 f k = some (Fp.sn (Fp.sg f) (Fp.tr f)) := by
  unfold floatToIntVal
  rw [show FloatKind.f64.decode f = Ieee.double.read f from rfl, Fp.toInt_fin hf]
  simp [h1, h2]
theorem conv_out {f : Nat} {k : IntKind} (h : Fp.fin f → ¬ (k.min ≤ Fp.sn (Fp.sg f) (Fp.tr f) ∧ Fp.sn (Fp.sg f) (Fp.tr f) ≤ k.max)) : floatToIntVal .f64 f k = none := by
  unfold floatToIntVal
  rw [show FloatKind.f64.decode f = Ieee.double.read f from rfl]
  by_cases hf : Fp.fin f
  · rw [Fp.toInt_fin hf]; simp only; rw [if_neg (h hf)]
  · rw [Fp.toInt_none hf]
/-- Out of range: some integer of the kind, off the tape. -/
theorem run_conv_out {f : Nat} (W : World) (h : floatToIntVal .f64 f .i32 = none) :
    ∃ i : Int, -2147483648 ≤ i ∧ i ≤ 2147483647 ∧ (convert 22 21 (.float .f64 f)).run Try.prog W = .ok (.int .i32 i) W.drew := by
  unfold floatToIntVal at h
  refine ⟨IntKind.i32.wrap ((Question.floatToInt .f64 f .i32).cut (W.tape W.drawn (.floatToInt .f64 f .i32)) : Nat), ?_, ?_, ?_⟩
  · rw [IntKind.wrap_i32]; omega
  · rw [IntKind.wrap_i32]; omega
  · have e : ((FloatKind.f64.decode f).toInt .zero = none) ∨ ∃ n, (FloatKind.f64.decode f).toInt .zero = some n ∧ ¬ (IntKind.i32.min ≤ n ∧ n ≤ IntKind.i32.max) := by
      cases q : (FloatKind.f64.decode f).toInt .zero with
      | none => exact .inl rfl
      | some n =>
        rw [q] at h
        simp only at h
        split at h
        · cases h
        · rename_i hc; exact .inr ⟨n, rfl, hc⟩
    simp only [convert, run_underlying Try.underlying22, run_underlying Try.underlying21, Sem.run_bind, Result.andThen_ok, Conv.floatToInt]
    rcases e with e | ⟨n, e, hc⟩
    · rw [e]; rfl
    · rw [e]; simp only; rw [if_neg hc]; rfl
theorem sv_of_ky {x y : Nat} (h : Fp.ky x = Fp.ky y) : Fp.sv x = Fp.sv y := by
  unfold Fp.ky Fp.key Fp.sn at h
  unfold Fp.sv Fp.sn
  by_cases a : Fp.sg x = true <;> by_cases b : Fp.sg y = true <;> simp only [a, b, if_true, if_false, Bool.false_eq_true] at h ⊢
  · rw [show Fp.rg x = Fp.rg y by omega]
  · rw [show Fp.rg x = 0 by omega, show Fp.rg y = 0 by omega, Fp.N_zero]; rfl
  · rw [show Fp.rg x = 0 by omega, show Fp.rg y = 0 by omega, Fp.N_zero]; rfl
  · rw [show Fp.rg x = Fp.rg y by omega]
theorem out_neq {f : Nat} {i : Int} (h1 : -2147483648 ≤ i) (h2 : i ≤ 2147483647) (h : Fp.fin f → ¬ (-2147483648 ≤ Fp.sn (Fp.sg f) (Fp.tr f) ∧ Fp.sn (Fp.sg f) (Fp.tr f) ≤ 2147483647)) :
    (FloatKind.f64.format.order (floatOfInt .f64 i) f == some .eq) = false := by
  have hi : i.natAbs ≤ 9007199254740992 := by omega
  by_cases hn : Fp.nan f
  · exact n_eq (.inr hn)
  · rw [f_eq (iw_not_nan i) hn]
    have e0 : floatOfInt .f64 i = Fp.iw i := rfl
    rw [e0]
    refine decide_eq_false fun hk => ?_
    by_cases hf : Fp.fin f
    · have := sv_of_ky hk
      rw [Fp.iw_sv' hi] at this
      have q := Fp.tr_of_sv this.symm
      exact h hf (by omega)
    · have hr : Fp.rg f = 9218868437227405312 := by unfold Fp.fin at hf; unfold Fp.nan at hn; omega
      have hw := Fp.iw_fin hi
      unfold Fp.fin at hw
      unfold Fp.ky Fp.key at hk
      have := congrArg Int.natAbs hk
      rw [Fp.sn_nabs, Fp.sn_nabs] at this
      omega
theorem conv_u32 {r : Nat} (h : r < 4751297606875873280) : floatToIntVal .f64 r .u32 = some (Fp.tr r : Int) := by
  have hs : Fp.sn (Fp.sg r) (Fp.tr r) = Fp.tr r := by rw [Fp.sg_pos (by omega)]; rfl
  have hl := Fp.tr_lt h
  have q := conv_in (k := .u32) (f := r) (by unfold Fp.fin; rw [Fp.rg_pos (by omega)]; omega) (by rw [hs]; show (0 : Int) ≤ _; omega) (by rw [hs]; show _ ≤ (4294967295 : Int); omega)
  rwa [hs] at q
theorem ret_i32 {a b : Int} (h : a = b) : Ending.returned (.int .i32 a) = .returned (.int .i32 b) := by rw [h]
theorem hard_val {f : Nat} (hf : Fp.fin f) {r q : Nat} (h : Fp.tr f = Fp.tr r + q * 4294967296) :
    (Fp.sg f = false → wrap32 (Fp.tr r : Int) = i32of f) ∧ (Fp.sg f = true → wrap32 (-(wrap32 (Fp.tr r : Int))) = i32of f) := by
  unfold i32of
  rw [if_pos hf, h]
  constructor
  · intro hs
    rw [hs]
    simp only [Fp.sn, wrap32, IntKind.wrap_i32, Bool.false_eq_true, if_false]
    omega
  · intro hs
    rw [hs]
    simp only [Fp.sn, wrap32, IntKind.wrap_i32, if_true]
    omega
theorem easy_val {f : Nat} (hf : Fp.fin f) (h1 : -2147483648 ≤ Fp.sn (Fp.sg f) (Fp.tr f)) (h2 : Fp.sn (Fp.sg f) (Fp.tr f) ≤ 2147483647) : Fp.sn (Fp.sg f) (Fp.tr f) = i32of f := by
  unfold i32of
  rw [if_pos hf, IntKind.wrap_i32]; omega
theorem isNanF (f : Nat) (b : Bool) (h : decide (Fp.nan f) = b) (w : World) : Calls Try.prog 27 #[.float .f64 f] w fun e w' => e = .returned (.bool b) ∧ w = w' := by rw [← h]; exact isNan f w
theorem isInfF (f : Nat) (hf : f < 18446744073709551616) (b : Bool) (h : decide (Fp.rg f = 9218868437227405312) = b) (w : World) : Calls Try.prog 28 #[.float .f64 f, .int .i64 0] w fun e w' => e = .returned (.bool b) ∧ w = w' := by rw [← h]; exact isInf f hf w
theorem signF (f : Nat) (hf : f < 18446744073709551616) (b : Bool) (h : Fp.sg f = b) (w : World) : Calls Try.prog 30 #[.float .f64 f] w fun e w' => e = .returned (.bool b) ∧ w = w' := by rw [← h]; exact signbit f hf w
set_option maxHeartbeats 2000000 in
theorem toInt32 (f : Nat) (hf : f < 18446744073709551616) (w : World) : Calls Try.prog 15 #[.float .f64 f] w fun e w' => e = .returned (.int .i32 (i32of f)) ∧ Below w.heap.size w w' := by
  have HA := Lib.hid (fun W => abs f hf W)
  by_cases hfin : Fp.fin f
  · have HM := Lib.hid (fun W => mod (Fp.rg f) hfin W)
    have HN := Lib.hid (fun W => isNanF f false (decide_eq_false (by unfold Fp.fin at hfin; unfold Fp.nan; omega)) W)
    have HI := Lib.hid (fun W => isInfF f hf false (decide_eq_false (by unfold Fp.fin at hfin; omega)) W)
    have HV := Lib.hid (fun r q h => hard_val hfin (r := r) (q := q) h)
    by_cases hin : -2147483648 ≤ Fp.sn (Fp.sg f) (Fp.tr f) ∧ Fp.sn (Fp.sg f) (Fp.tr f) ≤ 2147483647
    · have ev := easy_val hfin hin.1 hin.2
      have hc := fun W => run_convert_float_int (P := Try.prog) W 22 21 .f64 .i32 f _ (by kernel_rfl) Try.underlying21 (conv_in (k := .i32) hfin hin.1 hin.2)
      rw [ev] at hc
      clear ev hin
      cases hs : Fp.sg f
      all_goals
        have HS := Lib.hid (fun W => signF f hf _ hs W)
        have HSG := Lib.hid hs
        clear hs hfin
        cases hq : (FloatKind.f64.format.order (floatOfInt .f64 (i32of f)) f == some .eq)
        · go_enter Try.func15, Try.ntmps15
          go_wp2_with (first
            | (go_at_call 27; (with_reducible refine (HN.out _).mono ?_); rintro _ _ ⟨rfl, rfl⟩)
            | (go_at_call 28; (with_reducible refine (HI.out _).mono ?_); rintro _ _ ⟨rfl, rfl⟩)
            | (go_at_call 12; (with_reducible refine (HA.out _).mono ?_); rintro _ _ ⟨rfl, rfl⟩)
            | (go_at_call 29; (with_reducible refine (HM.out _).mono ?_); rintro _ _ ⟨⟨r, q, rfl, hr, hN⟩, rfl⟩; have hcu := fun W => run_convert_float_int (P := Try.prog) W 22 62 .f64 .u32 r _ (by kernel_rfl) Try.underlying62 (conv_u32 hr); have HV2 := Lib.hid (HV.out r q (Fp.tr_mod (by omega) hN)); clear hN)
            | (go_at_call 30; (with_reducible refine (HS.out _).mono ?_); rintro _ _ ⟨rfl, rfl⟩))
          go_ret
          first
            | exact ⟨ret_i32 (HV2.out.1 HSG.out), Below.refl _ _⟩
            | exact ⟨ret_i32 (HV2.out.2 HSG.out), Below.refl _ _⟩
        · go_enter Try.func15, Try.ntmps15
          go_wp2
          go_ret
          exact ⟨rfl, Below.refl _ _⟩
    · obtain ⟨i, hi1, hi2, hc⟩ := run_conv_out w (conv_out (f := f) (k := .i32) fun _ => hin)
      have hq := out_neq hi1 hi2 (fun _ => hin)
      cases hs : Fp.sg f
      all_goals
        have HS := Lib.hid (fun W => signF f hf _ hs W)
        have HSG := Lib.hid hs
        clear hs hfin hin
        go_enter Try.func15, Try.ntmps15
        go_wp2_with (first
            | (go_at_call 27; (with_reducible refine (HN.out _).mono ?_); rintro _ _ ⟨rfl, rfl⟩)
            | (go_at_call 28; (with_reducible refine (HI.out _).mono ?_); rintro _ _ ⟨rfl, rfl⟩)
            | (go_at_call 12; (with_reducible refine (HA.out _).mono ?_); rintro _ _ ⟨rfl, rfl⟩)
            | (go_at_call 29; (with_reducible refine (HM.out _).mono ?_); rintro _ _ ⟨⟨r, q, rfl, hr, hN⟩, rfl⟩; have hcu := fun W => run_convert_float_int (P := Try.prog) W 22 62 .f64 .u32 r _ (by kernel_rfl) Try.underlying62 (conv_u32 hr); have HV2 := Lib.hid (HV.out r q (Fp.tr_mod (by omega) hN)); clear hN)
            | (go_at_call 30; (with_reducible refine (HS.out _).mono ?_); rintro _ _ ⟨rfl, rfl⟩))
        go_ret
        first
          | exact ⟨ret_i32 (HV2.out.1 HSG.out), (Below.refl _ _).drew⟩
          | exact ⟨ret_i32 (HV2.out.2 HSG.out), (Below.refl _ _).drew⟩
  · have h0 : i32of f = 0 := by unfold i32of; rw [if_neg hfin]
    rw [h0]
    obtain ⟨i, hi1, hi2, hc⟩ := run_conv_out w (conv_out (f := f) (k := .i32) fun h => absurd h hfin)
    have hq := out_neq hi1 hi2 (fun h => absurd h hfin)
    clear h0
    by_cases hn : Fp.nan f
    · have HN := Lib.hid (fun W => isNanF f true (decide_eq_true hn) W)
      clear hn hfin
      go_enter Try.func15, Try.ntmps15
      go_wp2_with (go_at_call 27; (with_reducible refine (HN.out _).mono ?_); rintro _ _ ⟨rfl, rfl⟩)
      go_ret
      exact ⟨rfl, (Below.refl _ _).drew⟩
    · have HN := Lib.hid (fun W => isNanF f false (decide_eq_false hn) W)
      have HI := Lib.hid (fun W => isInfF f hf true (decide_eq_true (by unfold Fp.fin at hfin; unfold Fp.nan at hn; omega)) W)
      clear hn hfin
      go_enter Try.func15, Try.ntmps15
      go_wp2_with (first
        | (go_at_call 27; (with_reducible refine (HN.out _).mono ?_); rintro _ _ ⟨rfl, rfl⟩)
        | (go_at_call 28; (with_reducible refine (HI.out _).mono ?_); rintro _ _ ⟨rfl, rfl⟩))
      go_ret
      exact ⟨rfl, (Below.refl _ _).drew⟩
theorem toUint32 (f : Nat) (hf : f < 18446744073709551616) (w : World) : Calls Try.prog 16 #[.float .f64 f] w fun e w' => e = .returned (.int .u32 (IntKind.u32.wrap (i32of f))) ∧ Below w.heap.size w w' := by
  have H := Lib.hid (toInt32 f hf w)
  go_enter Try.func16, Try.ntmps16
  go_wp2_with (go_at_call 15; (with_reducible refine H.out.mono ?_); rintro _ wa ⟨rfl, hb⟩)
  go_ret
  exact ⟨rfl, hb⟩
end Go.Proofs.Ytfacphjjmmfegaa
