/-
  The law FnApproxIntCharCountNearDigits' walk. No condition.
-/
import Derived.Test.YtpgdjonbeiaghaaApx
import Derived.Test.YtpgdjonbeiaghaaKit
import Derived.WalkSmall
namespace Go.Proofs.Ytpgdjonbeiaghaa.fnApproxIntCharCountNearDigits
open Go.ChangeShapes Go.WideShapes Go.ChangeAt Go.RowKit
set_option linter.unusedVariables false
set_option exponentiation.threshold 2000

theorem iw_lt (n : Int) : Fp.iw n < 18446744073709551616 := f64_range (floatOfInt_wf .f64 n)
theorem conv_iw {n : Int} (h1 : 0 ≤ n) (h2 : n ≤ 100) : floatToIntVal .f64 (Fp.iw n) .i64 = some n := by
  have e := Fp.tr_of_sv (Fp.iw_sv' (n := n) (by omega))
  have q := conv_in (f := Fp.iw n) (k := .i64) (Fp.iw_fin (by omega)) (by rw [e]; show (-9223372036854775808 : Int) ≤ n; omega) (by rw [e]; show n ≤ (9223372036854775807 : Int); omega)
  rwa [e] at q
theorem e_pos {E M : Nat} (h2 : E ≤ 1076) (hM : M < 4503599627370496) : Fp.rg (E * 4503599627370496 + M) = E * 4503599627370496 + M := Fp.rg_pos (by omega)
/-- What approximatePrintedIntCharCount gives. -/
def QA (κ : Int) (s : Bool) (c : Int) : Prop := ∃ m, Tens κ m ∧ c = 1 + (if 0 < m then m else 0) + (if s then 1 else 0)
theorem lt_zero {x : Nat} (hn : ¬ Fp.nan x) (h0 : Fp.rg x ≠ 0) : (FloatKind.f64.format.order x 0 == some .lt) = Fp.sg x := by
  rw [f_lt hn zero_nn, ky_zero, ky_val]
  cases Fp.sg x <;> simp <;> omega
theorem approx16 (x E M : Nat) (hx : x < 18446744073709551616) (h1 : 1023 ≤ E) (h2 : E ≤ 1076) (hM : M < 4503599627370496) (hr : Fp.rg x = E * 4503599627370496 + M) (w : World) :
    Calls Try.prog 16 #[.float .f64 x] w fun e w' => ∃ c, e = .returned (.int .i64 c) ∧ QA ((E : Int) - 1023) (Fp.sg x) c ∧ w = w' := by
  obtain ⟨L, T, F, m, e1, e2, nT, e3, nF, e4, tm⟩ := tens E M h1 h2 hM
  have HA := Lib.hid (abs x hx w)
  rw [hr] at HA
  have HL := Lib.hid (log22 _ L T e1 e2 w)
  have HF := fun W => x_floor nT W
  rw [e3] at HF
  have HX := fun W => x_max 0 F W
  rw [e4] at HX
  have hc : floatToIntVal .f64 (Fp.iw (if 0 < m then m else 0)) .i64 = some (if 0 < m then m else 0) := by
    have := tm.1
    exact conv_iw (by split <;> omega) (by split <;> omega)
  have hcv := fun W => run_convert_float_int (P := Try.prog) W 22 3 .f64 .i64 _ _ (by kernel_rfl) Try.underlying3 hc
  have g := lt_zero (x := x) (by unfold Fp.nan; omega) (by omega)
  have HQ := Lib.hid (show ∀ c, c = 1 + (if 0 < m then m else 0) + (if Fp.sg x then 1 else 0) → QA ((E : Int) - 1023) (Fp.sg x) c from fun c h => ⟨m, tm, h⟩)
  have hb : 0 ≤ (if 0 < m then m else 0) ∧ (if 0 < m then m else 0) ≤ 31 := by have := tm.1; split <;> omega
  generalize E * 4503599627370496 + M = Y at *
  generalize Fp.iw (if 0 < m then m else 0) = Z at *
  generalize (if 0 < m then m else 0) = d at *
  obtain ⟨hb1, hb2⟩ := hb
  generalize Fp.sg x = s at *
  clear e1 e2 e3 e4 nT nF hc tm hr
  cases s
  all_goals
    go_enter Try.func16, Try.ntmps16
    go_wp2_with (first
      | (go_at_call 13; (with_reducible refine HA.out.mono ?_); rintro _ _ ⟨rfl, rfl⟩)
      | (go_at_call 22; (with_reducible refine HL.out.mono ?_); rintro _ _ ⟨rfl, rfl⟩)
      | (go_at_call 21; go_enter Try.func21, Try.ntmps21)
      | (go_at_call 20; go_enter Try.func20, Try.ntmps20))
    repeat go_ret
    all_goals exact ⟨_, rfl, HQ.out _ (by simp; try omega), rfl⟩
theorem approx9 (x E M : Nat) (hx : x < 18446744073709551616) (h1 : 1023 ≤ E) (h2 : E ≤ 1076) (hM : M < 4503599627370496) (hr : Fp.rg x = E * 4503599627370496 + M) (w : World) :
    Calls Try.prog 9 #[.float .f64 x] w fun e w' => ∃ c, e = .returned (.int .i64 c) ∧ QA ((E : Int) - 1023) (Fp.sg x) c ∧ w = w' := by
  have H := Lib.hid (approx16 x E M hx h1 h2 hM hr w)
  generalize Fp.sg x = s at *
  clear hr
  go_enter Try.func9, Try.ntmps9
  go_wp2_with (go_at_call 16; (with_reducible refine H.out.mono ?_); rintro _ _ ⟨c, rfl, hq, rfl⟩)
  go_ret
  exact ⟨c, rfl, hq, rfl⟩

/-! ### Plain facts -/
theorem digits_chk : ∀ κ : Nat, κ < 54 → ∀ i : Nat, i < 18 → (i = 0 ∨ 2 ^ (κ + 1) ≤ 10 ^ (i - 1) ∨ 10 ^ i ≤ 2 ^ κ ∨ (301036 * (κ + 1) + 1000 < 1000000 * (i + 1) ∧ (i ≤ 2 ∨ 1000000 * i + 44000 ≤ 301022 * κ + 2000000))) := by
  decide +kernel
theorem digits {κ n i : Nat} {m : Int} (hκ : κ < 54) (h1 : 2 ^ κ ≤ n) (h2 : n < 2 ^ (κ + 1)) (hi : i = 0 ∨ 10 ^ (i - 1) ≤ n) (hn : n < 10 ^ i) (t : Tens (κ : Int) m) :
    (i : Int) - 1 ≤ 1 + (if 0 < m then m else 0) ∧ 1 + (if 0 < m then m else 0) ≤ (i : Int) + 1 := by
  have hp : 0 < 2 ^ κ := Nat.two_pow_pos κ
  have i0 : i ≠ 0 := by
    intro h; subst h; simp at hn; omega
  have hi2 : 10 ^ (i - 1) ≤ n := by omega
  have i18 : i < 18 := by
    false_or_by_contra
    have a : 10 ^ 17 ≤ 10 ^ (i - 1) := Nat.pow_le_pow_right (by omega) (by omega)
    have b : 2 ^ (κ + 1) ≤ 2 ^ 54 := Nat.pow_le_pow_right (by omega) (by omega)
    have c : 2 ^ 54 < 10 ^ 17 := by decide
    omega
  obtain ⟨c1, c2⟩ : 301036 * (κ + 1) + 1000 < 1000000 * (i + 1) ∧ (i ≤ 2 ∨ 1000000 * i + 44000 ≤ 301022 * κ + 2000000) := by
    rcases digits_chk κ hκ i i18 with c | c | c | c
    · exact absurd c i0
    · exact absurd c (by omega)
    · exact absurd c (by omega)
    · exact c
  obtain ⟨t0, t1, t2⟩ := t
  split <;> omega
theorem tr_bounds {x E M : Nat} (h1 : 1023 ≤ E) (hM : M < 4503599627370496) (hr : Fp.rg x = E * 4503599627370496 + M) : 2 ^ (E - 1023) ≤ Fp.tr x ∧ Fp.tr x < 2 ^ (E - 1023 + 1) := by
  unfold Fp.tr
  rw [hr, Fp.N_big (by omega), show (E * 4503599627370496 + M) / 4503599627370496 = E by omega, show (E * 4503599627370496 + M) % 4503599627370496 = M by omega]
  have hp := Nat.two_pow_pos (E - 1)
  have e : 4503599627370496 * 2 ^ (E - 1) = 2 ^ (E - 1023) * Fp.Un := by
    unfold Fp.Un
    rw [← Nat.pow_add, Fp.p52]; congr 1; omega
  have l : 4503599627370496 * 2 ^ (E - 1) ≤ (4503599627370496 + M) * 2 ^ (E - 1) := Nat.mul_le_mul_right _ (by omega)
  have u : (4503599627370496 + M) * 2 ^ (E - 1) < (4503599627370496 + 4503599627370496) * 2 ^ (E - 1) := Nat.mul_lt_mul_of_pos_right (by omega) hp
  rw [Nat.add_mul 4503599627370496 4503599627370496, e] at u
  constructor
  · rw [Nat.le_div_iff_mul_le Fp.Un_pos, ← e]; exact l
  · rw [Nat.div_lt_iff_lt_mul Fp.Un_pos, Nat.pow_succ, Nat.mul_assoc, Nat.two_mul 1 |> fun _ => Nat.mul_comm 2, Nat.mul_two, Nat.mul_add]; exact u
theorem sub_self {x : Nat} (h : Fp.fin x) : ∃ r, Ieee.double.sub x x = some r ∧ (FloatKind.f64.format.order r 0 != some .eq) = false := by
  obtain ⟨r, e, n⟩ := Fp.fsub h h
  refine ⟨r, e, ?_⟩
  have v0 : Fp.val 0 = 0 := by decide +kernel
  have hz : Fp.val x - Fp.val x = 0 := by grind
  have g1 := n.ge (k := 0) (by decide) (by rw [hz, v0]; exact Rat.le_refl)
  have g2 := n.le (k := 0) (by decide) (by rw [hz, v0]; exact Rat.le_refl)
  rw [f_ne n.nn zero_nn]
  simp; omega
theorem sub_nan {x : Nat} (h : ¬ Fp.fin x) : Ieee.double.sub x x = none := by
  unfold Ieee.Format.sub
  rw [Fp.read_eq]
  unfold Fp.fin at h
  by_cases e : Fp.rg x = 9218868437227405312
  · rw [e, Fp.dec_inf]; cases Fp.sg x <;> rfl
  · rw [Fp.dec_nan (by omega)]; rfl
/-- The exponent and the fraction of a number from one to 2^53. -/
theorem range {x : Nat} (h1 : 4607182418800017408 ≤ Fp.rg x) (h2 : Fp.rg x ≤ 4845873199050653696) :
    ∃ E M, 1023 ≤ E ∧ E ≤ 1076 ∧ M < 4503599627370496 ∧ Fp.rg x = E * 4503599627370496 + M :=
  ⟨Fp.rg x / 4503599627370496, Fp.rg x % 4503599627370496, by omega, by omega, by omega, by omega⟩
def numOf : Value → Nat
  | .int _ i => i.toNat
  | _ => 0
theorem conv_pos {x : Nat} (hs : Fp.sg x = false) (hf : Fp.fin x) (ht : Fp.tr x < 2 ^ 54) : floatToIntVal .f64 x .i64 = some (Fp.tr x : Int) := by
  have e : Fp.sn (Fp.sg x) (Fp.tr x) = Fp.tr x := by rw [hs]; rfl
  have b : (2 : Nat) ^ 54 = 18014398509481984 := by decide
  have q := conv_in (k := .i64) hf (by rw [e]; show (-9223372036854775808 : Int) ≤ _; omega) (by rw [e]; show _ ≤ (9223372036854775807 : Int); omega)
  rwa [e] at q
theorem walkIn (x E M : Nat) (hx : x < 18446744073709551616) (h1 : 1023 ≤ E) (h2 : E ≤ 1076) (hM : M < 4503599627370496) (hr : Fp.rg x = E * 4503599627370496 + M) (hle : Fp.rg x ≤ 4845873199050653696) (w : World) :
    Calls Try.prog 5 #[.float .f64 x] w fun e w' => e = .returned (.bool true) ∧ Below w.heap.size w w' := by
  have HA := Lib.hid (fun W => approx9 x E M hx h1 h2 hM hr W)
  have hf : Fp.fin x := by unfold Fp.fin; omega
  obtain ⟨z, hz, z0⟩ := sub_self hf
  have hsub := fun (t : TypeId) (W : World) => run_float_arith (P := Try.prog) W .sub t .f64 _ _ _ (show floatBits .sub .f64 x x = some z from hz)
  have hnn : ¬ Fp.nan x := by unfold Fp.nan; omega
  have g := lt_zero (x := x) hnn (by omega)
  -- the magnitude's word
  obtain ⟨y, hy⟩ : ∃ y, y = Fp.rg x := ⟨_, rfl⟩
  have ry : Fp.rg y = E * 4503599627370496 + M := by rw [hy, Fp.rg_pos (Fp.rg_lt x), hr]
  have sy : Fp.sg y = false := by rw [hy]; exact Fp.sg_pos (Fp.rg_lt x)
  have ky : Fp.ky y = (E * 4503599627370496 + M : Nat) := by rw [ky_val, sy, ry]; rfl
  have nny : ¬ Fp.nan y := by unfold Fp.nan; rw [ry]; omega
  have f1 := f_lt (x := y) (y := 4607182418800017408) nny (by decide)
  rw [ky, show Fp.ky 4607182418800017408 = 4607182418800017408 by decide, decide_eq_false (by omega)] at f1
  have f2 := f_gt (x := y) (y := 4845873199050653696) nny (by decide)
  rw [ky, show Fp.ky 4845873199050653696 = 4845873199050653696 by decide, decide_eq_false (by omega)] at f2
  obtain ⟨t1, t2⟩ := tr_bounds h1 hM ry
  have t3 : Fp.tr y < 2 ^ 54 := Nat.lt_of_lt_of_le t2 (Nat.pow_le_pow_right (by omega) (by omega))
  have hcv := fun W => run_convert_float_int (P := Try.prog) W 22 2 .f64 .i64 _ _ (by kernel_rfl) Try.underlying2 (conv_pos sy (show Fp.fin y by unfold Fp.fin; rw [ry]; omega) t3)
  -- absolute value in the law: y itself, or x with the sign turned
  have HY : Hid (if Fp.sg x = true then Op.negFloat .f64 x = y else x = y) := by
    show if Fp.sg x = true then Op.negFloat .f64 x = y else x = y
    split
    · rename_i h
      rw [neg_eq, Fp.neg_word hx, h, hy]; rfl
    · rename_i h
      have := Fp.wd_sg_rg hx
      rw [hy]
      rw [Bool.not_eq_true] at h
      rw [h] at this; exact this.symm
  obtain ⟨n, hn⟩ : ∃ n, n = Fp.tr y := ⟨_, rfl⟩
  rw [← hn] at t1 t2 t3 hcv
  obtain ⟨κ, hκ⟩ : ∃ κ, κ = E - 1023 := ⟨_, rfl⟩
  rw [← hκ] at t1 t2
  have HD := Lib.hid (fun (i : Nat) (hi : i = 0 ∨ 10 ^ (i - 1) ≤ n) (h : n < 10 ^ i) (m : Int) (t : Tens (κ : Int) m) => digits (by omega) t1 t2 hi h t)
  rw [show (E : Int) - 1023 = κ by omega] at HA
  have n54 : n < 18014398509481984 := by rw [show (18014398509481984 : Nat) = 2 ^ 54 by decide]; exact t3
  clear t1 t2 t3 hn hκ ry sy ky nny hnn hf hz hr hle h1 h2 hM hy
  generalize hs : Fp.sg x = s at *
  have HS := HY.out
  clear HY
  cases s
  · rw [if_neg (by decide)] at HS
    subst HS
    cases hq : (FloatKind.f64.format.order (floatOfInt .f64 (n : Int)) x != some .eq)
    · go_enter Try.func5, Try.ntmps5
      go_wp2_with fail
      go_loopw [4, 5] (fun a b wr => w = wr ∧ ∃ i : Nat, a = .int .i64 ((n / 10 ^ i : Nat) : Int) ∧ b = .int .i64 i ∧ i ≤ 18 ∧ (i = 0 ∨ 10 ^ (i - 1) ≤ n)) (fun a _ _ => numOf a)
      case atStart => exact ⟨by trivial, 0, by simp, rfl, by omega, .inl rfl⟩
      case round =>
        obtain ⟨rfl, i, rfl, rfl, hi18, hi⟩ := hrel
        by_cases hp : 0 < n / 10 ^ i
        · have hge : 10 ^ i ≤ n := by
            false_or_by_contra
            rw [Nat.div_eq_of_lt (by omega)] at hp; omega
          have h17 : i < 18 := by
            false_or_by_contra
            have a : 10 ^ 18 ≤ 10 ^ i := Nat.pow_le_pow_right (by omega) (by omega)
            have c : 18014398509481984 < 10 ^ 18 := by decide
            omega
          have hn := Lib.hid (show n / 10 ^ i / 10 = n / 10 ^ (i + 1) by rw [Nat.div_div_eq_div_mul, Nat.pow_succ])
          have hG := Lib.hid hge
          have hb : n / 10 ^ i ≤ n := Nat.div_le_self _ _
          generalize hN : n / 10 ^ i = N at *
          clear hge hi
          go_wp2_with fail
          refine ⟨⟨by trivial, i + 1, ?_, by push_cast; rfl, by omega, .inr (by rw [Nat.add_sub_cancel]; exact hG.out)⟩, ?_⟩
          · rw [← hn.out]; push_cast; rfl
          · show ((N : Int) / 10).toNat < (N : Int).toNat
            omega
        · have hz : n / 10 ^ i = 0 := Nat.eq_zero_of_not_pos hp
          have hlt : n < 10 ^ i := by
            false_or_by_contra
            have := Nat.div_pos (show 10 ^ i ≤ n by omega) (Nat.pow_pos (by omega))
            omega
          have HI := Lib.hid (HD.out i hi hlt)
          rw [hz]
          clear hi hp hz hlt
          go_wp2_with fail
          refine (HA.out _).mono ?_
          rintro _ _ ⟨c, rfl, ⟨m, tm, hc⟩, rfl⟩
          obtain ⟨d1, d2⟩ := HI.out m tm
          simp only [if_true, if_false, Bool.false_eq_true] at hc
          generalize (if 0 < m then m else 0) = d at *
          subst hc
          clear HI HD HA tm
          go_wp2_with fail
          go_ret
          exact ⟨rfl, Below.refl _ _⟩
    · go_enter Try.func5, Try.ntmps5
      go_wp2_with fail
      go_ret
      exact ⟨rfl, Below.refl _ _⟩
  · rw [if_pos rfl] at HS
    cases hq : (FloatKind.f64.format.order (floatOfInt .f64 (n : Int)) y != some .eq)
    · go_enter Try.func5, Try.ntmps5
      go_wp2_with fail
      go_loopw [4, 5] (fun a b wr => w = wr ∧ ∃ i : Nat, a = .int .i64 ((n / 10 ^ i : Nat) : Int) ∧ b = .int .i64 i ∧ i ≤ 18 ∧ (i = 0 ∨ 10 ^ (i - 1) ≤ n)) (fun a _ _ => numOf a)
      case atStart => exact ⟨by trivial, 0, by simp, rfl, by omega, .inl rfl⟩
      case round =>
        obtain ⟨rfl, i, rfl, rfl, hi18, hi⟩ := hrel
        by_cases hp : 0 < n / 10 ^ i
        · have hge : 10 ^ i ≤ n := by
            false_or_by_contra
            rw [Nat.div_eq_of_lt (by omega)] at hp; omega
          have h17 : i < 18 := by
            false_or_by_contra
            have a : 10 ^ 18 ≤ 10 ^ i := Nat.pow_le_pow_right (by omega) (by omega)
            have c : 18014398509481984 < 10 ^ 18 := by decide
            omega
          have hn := Lib.hid (show n / 10 ^ i / 10 = n / 10 ^ (i + 1) by rw [Nat.div_div_eq_div_mul, Nat.pow_succ])
          have hG := Lib.hid hge
          have hb : n / 10 ^ i ≤ n := Nat.div_le_self _ _
          generalize hN : n / 10 ^ i = N at *
          clear hge hi
          go_wp2_with fail
          refine ⟨⟨by trivial, i + 1, ?_, by push_cast; rfl, by omega, .inr (by rw [Nat.add_sub_cancel]; exact hG.out)⟩, ?_⟩
          · rw [← hn.out]; push_cast; rfl
          · show ((N : Int) / 10).toNat < (N : Int).toNat
            omega
        · have hz : n / 10 ^ i = 0 := Nat.eq_zero_of_not_pos hp
          have hlt : n < 10 ^ i := by
            false_or_by_contra
            have := Nat.div_pos (show 10 ^ i ≤ n by omega) (Nat.pow_pos (by omega))
            omega
          have HI := Lib.hid (HD.out i hi hlt)
          rw [hz]
          clear hi hp hz hlt
          go_wp2_with fail
          refine (HA.out _).mono ?_
          rintro _ _ ⟨c, rfl, ⟨m, tm, hc⟩, rfl⟩
          obtain ⟨d1, d2⟩ := HI.out m tm
          simp only [if_true, if_false, Bool.false_eq_true] at hc
          generalize (if 0 < m then m else 0) = d at *
          subst hc
          clear HI HD HA tm
          go_wp2_with fail
          go_ret
          exact ⟨rfl, Below.refl _ _⟩
    · go_enter Try.func5, Try.ntmps5
      go_wp2_with fail
      go_ret
      exact ⟨rfl, Below.refl _ _⟩
theorem walk (a0 : Nat) (w : World) (w0 : (Lit.float .f64 a0).wf = true) :
    Calls Try.prog 5 #[.float .f64 a0] w fun e w' => e = .returned (.bool true) ∧ Below w.heap.size w w' := by
  have hx := f64_range w0
  clear w0
  by_cases hf : Fp.fin a0
  · by_cases hin : 4607182418800017408 ≤ Fp.rg a0 ∧ Fp.rg a0 ≤ 4845873199050653696
    · obtain ⟨E, M, h1, h2, hM, hr⟩ := range hin.1 hin.2
      exact walkIn a0 E M hx h1 h2 hM hr hin.2 w
    · obtain ⟨z, hz, z0⟩ := sub_self hf
      have hsub := fun (t : TypeId) (W : World) => run_float_arith (P := Try.prog) W .sub t .f64 _ _ _ (show floatBits .sub .f64 a0 a0 = some z from hz)
      have hnn : ¬ Fp.nan a0 := by unfold Fp.fin at hf; unfold Fp.nan; omega
      obtain ⟨b, hb⟩ : ∃ b, (FloatKind.f64.format.order a0 0 == some .lt) = b := ⟨_, rfl⟩
      obtain ⟨v, hv⟩ : ∃ v, v = if b then Op.negFloat .f64 a0 else a0 := ⟨_, rfl⟩
      have kv : ¬ Fp.nan v ∧ (Fp.ky v < 4607182418800017408 ∨ 4845873199050653696 < Fp.ky v) := by
        rw [f_lt hnn zero_nn, ky_zero] at hb
        have k := ky_val a0
        have hrl : Fp.rg a0 < 4607182418800017408 ∨ 4845873199050653696 < Fp.rg a0 := by omega
        cases b
        · simp only [Bool.false_eq_true, if_false] at hv
          subst hv
          refine ⟨hnn, ?_⟩
          have : ¬ Fp.ky v < 0 := of_decide_eq_false hb
          cases hs : Fp.sg v <;> simp only [hs, if_true, if_false, Bool.false_eq_true] at k <;> omega
        · simp only [if_true] at hv
          rw [neg_eq] at hv
          have : Fp.ky a0 < 0 := of_decide_eq_true hb
          have hs : Fp.sg a0 = true := by
            cases hs : Fp.sg a0
            · rw [hs] at k; simp only [Bool.false_eq_true, if_false] at k; omega
            · rfl
          subst hv
          have kk := ky_val (a0 ^^^ 9223372036854775808)
          rw [Fp.sg_neg hx, Fp.rg_neg hx, hs] at kk
          simp only [Bool.not_true, Bool.false_eq_true, if_false] at kk
          refine ⟨by unfold Fp.nan; rw [Fp.rg_neg hx]; exact hnn, by omega⟩
      obtain ⟨nv, kr⟩ := kv
      have f1 := f_lt (x := v) (y := 4607182418800017408) nv (by decide)
      rw [show Fp.ky 4607182418800017408 = 4607182418800017408 by decide] at f1
      have f2 := f_gt (x := v) (y := 4845873199050653696) nv (by decide)
      rw [show Fp.ky 4845873199050653696 = 4845873199050653696 by decide] at f2
      by_cases k1 : Fp.ky v < 4607182418800017408
      · rw [decide_eq_true k1] at f1
        clear f2 kr k1 nv hf hin hz hnn
        cases b
        · simp only [Bool.false_eq_true, if_false] at hv
          subst hv
          go_enter Try.func5, Try.ntmps5
          go_wp2_with fail
          go_ret
          exact ⟨rfl, Below.refl _ _⟩
        · simp only [if_true] at hv
          generalize hg : Op.negFloat .f64 a0 = u at *
          subst hv
          go_enter Try.func5, Try.ntmps5
          go_wp2_with fail
          go_ret
          exact ⟨rfl, Below.refl _ _⟩
      · rw [decide_eq_false k1] at f1
        rw [decide_eq_true (by omega)] at f2
        clear kr k1 nv hf hin hz hnn
        cases b
        · simp only [Bool.false_eq_true, if_false] at hv
          subst hv
          go_enter Try.func5, Try.ntmps5
          go_wp2_with fail
          go_ret
          exact ⟨rfl, Below.refl _ _⟩
        · simp only [if_true] at hv
          generalize hg : Op.negFloat .f64 a0 = u at *
          subst hv
          go_enter Try.func5, Try.ntmps5
          go_wp2_with fail
          go_ret
          exact ⟨rfl, Below.refl _ _⟩
  · have hn := fun (t : TypeId) (W : World) => run_float_nan (P := Try.prog) W .sub t a0 a0 (by simp) (sub_nan hf)
    have hq := fun r => n_ne (x := nanOf r) (y := 0) (.inl (isNan_nan (nanOf_isNan r)))
    clear hf
    go_enter Try.func5, Try.ntmps5
    go_wp2_with fail
    go_ret
    exact ⟨rfl, (Below.refl _ _).drew⟩
end Go.Proofs.Ytpgdjonbeiaghaa.fnApproxIntCharCountNearDigits
