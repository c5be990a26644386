/-
  What the law FnSqrtCaseTable does, for every input. No condition.
-/
import Derived.Test.YtbjbjhldigecmaaExt
import Derived.Test.YtbjbjhldigecmaaKit
import Derived.WalkSmall
namespace Go.Proofs.Ytbjbjhldigecmaa.fnSqrtCaseTable
open Go.ChangeShapes Go.WideShapes Go.ChangeAt Go.RowKit
set_option linter.unusedVariables false


theorem dec_small {s : Bool} {r : Nat} (h : r < 9218868437227405312) : ∃ m k : Nat, Fp.dec s r = .number s m (-1074 + k) ∧ m * 2 ^ k = Fp.N r ∧ (m = 0 ↔ r = 0) ∧ m < 9007199254740992 := by
  unfold Fp.dec
  by_cases h1 : r < 4503599627370496
  · rw [if_pos h1]; exact ⟨r, 0, rfl, by rw [Fp.N_small h1]; omega, Iff.rfl, by omega⟩
  · rw [if_neg h1, if_pos h]
    refine ⟨_, _, rfl, ?_, by omega, by omega⟩
    unfold Fp.N; rw [if_neg h1]
/-- The rung of one. -/
theorem N_pow (L : Nat) : Fp.N (L * 4503599627370496 + 4503599627370496) = 2 ^ (52 + L) := by
  rw [Fp.N_join L 4503599627370496 (by omega) (by omega), Nat.pow_add]
theorem N_one : Fp.N 4607182418800017408 = 2 ^ 1074 := by
  have e := N_pow 1022
  rw [show 52 + 1022 = 1074 from rfl] at e
  exact e
theorem scale_all (c : Nat) (hc : c = 1074) (s d n more i P : Nat) (ex : Int) (V : Nat) (C : Prop) (hNn : V * 2 ^ more = n * 2 ^ i) (hsc : (i : Int) + 0 = 2 * ex + more + 1074) (hP : ex - 1 + 1074 = P) (hs : 3 ≤ s)
    (hd : d = 0 ∧ s * s = n ∨ d = 1 ∧ s * s ≠ n) (s1 : s * s ≤ n)
    (hb : ∀ f : Nat, 1 ≤ f → C → (2 ^ (2 * f) ≤ n → (2 * s + d) * 2 ^ (f - 1) ≤ n ∧ 2 ^ (f + 1) ≤ 2 * s + d) ∧ (n ≤ 2 ^ (2 * f) → n ≤ (2 * s + d) * 2 ^ (f - 1) ∧ 2 * s + d ≤ 2 ^ (f + 1)))
    (hC : C) {A B : Prop} (one1 : A → 2 ^ c ≤ V) (one2 : B → V ≤ 2 ^ c) :
    (A → (2 * s + d) * 2 ^ P ≤ V ∧ 2 ^ c ≤ (2 * s + d) * 2 ^ P) ∧ (B → V ≤ (2 * s + d) * 2 ^ P ∧ (2 * s + d) * 2 ^ P ≤ 2 ^ c) := by
  have hmp := Nat.two_pow_pos more
  by_cases hex : 0 ≤ ex
  · obtain ⟨E, rfl⟩ := Int.eq_ofNat_of_zero_le hex
    obtain rfl : P = E + 1073 := by omega
    obtain rfl : i = 2 * E + 1074 + more := by omega
    have hV : V = n * 2 ^ (2 * E + 1074) := by
      apply Nat.eq_of_mul_eq_mul_right hmp
      rw [hNn, Nat.pow_add _ (2 * E + 1074), Nat.mul_assoc]
    have h3 : s * 3 ≤ s * s := Nat.mul_le_mul_left _ hs
    have h4 : 2 * s + d ≤ n := by omega
    have e1 : 2 ^ (2 * E + 1074) = 2 ^ (E + 1073) * 2 ^ (E + 1) := by rw [← Nat.pow_add, show E + 1073 + (E + 1) = 2 * E + 1074 by omega]
    have e2 : 2 ^ c * 2 ^ E = 2 * 2 ^ (E + 1073) := by rw [← Nat.pow_add 2 c E, Nat.mul_comm 2 (2 ^ (E + 1073)), ← Nat.pow_succ, show c + E = (E + 1073).succ by omega]
    have p1 := Nat.two_pow_pos (E + 1073)
    have p2 := Nat.two_pow_pos (E + 1)
    have p3 := Nat.two_pow_pos E
    have big : (2 * s + d) * 2 ^ (E + 1073) ≤ V := by
      rw [hV, e1]
      have : (2 * s + d) * 2 ^ (E + 1073) ≤ n * 2 ^ (E + 1073) := Nat.mul_le_mul_right _ h4
      have h6 : n * 2 ^ (E + 1073) * 1 ≤ n * 2 ^ (E + 1073) * 2 ^ (E + 1) := Nat.mul_le_mul_left _ p2
      rw [Nat.mul_one, Nat.mul_assoc] at h6
      omega
    have low : 2 ^ c < (2 * s + d) * 2 ^ (E + 1073) := by
      have h5 : 2 ^ c * 1 ≤ 2 ^ c * 2 ^ E := Nat.mul_le_mul_left _ p3
      have h6 : 3 * 2 ^ (E + 1073) ≤ (2 * s + d) * 2 ^ (E + 1073) := Nat.mul_le_mul_right _ (by omega)
      generalize 2 ^ c * 2 ^ E = a at *
      generalize 2 ^ c = b at *
      omega
    exact ⟨fun _ => ⟨big, Nat.le_of_lt low⟩, fun h => absurd (one2 h) (by
      generalize 2 ^ c = b at *
      omega)⟩
  · obtain ⟨f, hf⟩ : ∃ f : Nat, ex = -f := ⟨(-ex).toNat, by omega⟩
    subst hf
    have hf1 : 1 ≤ f := by omega
    have hP2 : P + f = 1073 := by omega
    have hi : i + 2 * f = c + more := by omega
    have H : V * 2 ^ (2 * f) = n * 2 ^ c := by
      apply Nat.eq_of_mul_eq_mul_right hmp
      have g1 : V * 2 ^ (2 * f) * 2 ^ more = V * 2 ^ more * 2 ^ (2 * f) := by ac_rfl
      rw [g1, hNn, Nat.mul_assoc, ← Nat.pow_add, hi, Nat.pow_add 2 c more, Nat.mul_assoc]
    obtain ⟨b1, b2⟩ := hb f hf1 hC
    have q := Nat.two_pow_pos (2 * f)
    have u := Nat.two_pow_pos c
    have e1 : (2 * s + d) * 2 ^ P * 2 ^ (2 * f) = (2 * s + d) * 2 ^ (f - 1) * 2 ^ c := by
      rw [Nat.mul_assoc, ← Nat.pow_add, Nat.mul_assoc, ← Nat.pow_add, show P + 2 * f = f - 1 + c by omega]
    have e2 : 2 ^ (f + 1) * 2 ^ P = 2 ^ c := by rw [← Nat.pow_add, show f + 1 + P = c by omega]
    constructor
    · intro hA
      have hn : 2 ^ (2 * f) ≤ n := by
        have : 2 ^ (2 * f) * 2 ^ c ≤ n * 2 ^ c := by rw [← H, Nat.mul_comm]; exact Nat.mul_le_mul_right _ (one1 hA)
        exact Nat.le_of_mul_le_mul_right this u
      obtain ⟨c1, c2⟩ := b1 hn
      refine ⟨?_, ?_⟩
      · apply Nat.le_of_mul_le_mul_right _ q
        rw [e1, H]; exact Nat.mul_le_mul_right _ c1
      · rw [← e2]; exact Nat.mul_le_mul_right _ c2
    · intro hB
      have hn : n ≤ 2 ^ (2 * f) := by
        have : n * 2 ^ c ≤ 2 ^ (2 * f) * 2 ^ c := by rw [← H, Nat.mul_comm (2 ^ (2 * f))]; exact Nat.mul_le_mul_right _ (one2 hB)
        exact Nat.le_of_mul_le_mul_right this u
      obtain ⟨c1, c2⟩ := b2 hn
      refine ⟨?_, ?_⟩
      · apply Nat.le_of_mul_le_mul_right _ q
        rw [e1, H]; exact Nat.mul_le_mul_right _ c1
      · rw [← e2]; exact Nat.mul_le_mul_right _ c2
theorem root_word {x : Nat} (hf : Fp.fin x) (hs : Fp.sg x = false) (h0 : Fp.rg x ≠ 0) : ∃ r, Ieee.double.sqrt x = some r ∧ 1 ≤ r ∧ r < 9218868437227405312 ∧
    (4607182418800017408 ≤ Fp.rg x → r ≤ Fp.rg x) ∧ (Fp.rg x ≤ 4607182418800017408 → Fp.rg x ≤ r) := by
  unfold Ieee.Format.sqrt
  rw [Fp.read_eq, hs, Fp.e_fb]
  obtain ⟨m, i, e, em, hz, hm2⟩ := dec_small (s := false) hf
  have hm : m ≠ 0 := fun c => h0 (hz.1 c)
  rw [e]
  obtain ⟨s, n, more, d, ex, hr, hn, s1, s2, hd, hsc, hl, hl2, hmore⟩ := Fp.root_form (m := m) (i := i) hm hm2
  rw [hr]
  simp only [Option.map_some, Ieee.Format.write]
  -- the scale: ex is negative
  have hex : ex ≤ -1 ∨ 0 ≤ ex := by omega
  obtain ⟨r, er, r1, r2⟩ := Fp.nearest_spec false (2 * s + d) (ex - 1)
  rw [er]
  -- the value N (rg x) in terms of n: N * 2 ^ more = n * 2 ^ i
  have hNn : Fp.N (Fp.rg x) * 2 ^ more = n * 2 ^ i := by rw [← em, hn]; ac_rfl
  have hsc2 : (i : Int) + 0 = 2 * ex + more + 1074 := by omega
  have hmore2 : more ≤ 109 := by
    have := Fp.log2_shift hm more
    rw [← hn] at this
    omega
  have hs2 : 3 ≤ s := by
    false_or_by_contra
    rename_i hc
    have h1 : (s + 1) * (s + 1) ≤ 3 * 3 := Nat.mul_le_mul (by omega) (by omega)
    have h2 := Nat.log2_self_le (show n ≠ 0 by intro c; subst c; simp at hl)
    have h3 : 2 ^ 108 ≤ 2 ^ n.log2 := Nat.pow_le_pow_right (by omega) hl
    have h4 : 9 < 2 ^ 108 := by decide
    omega
  obtain ⟨P, hP⟩ : ∃ P : Nat, ex - 1 + 1074 = P := ⟨(ex + 1073).toNat, by omega⟩
  have lv : ∀ k, (Fp.lev k (2 * s + d) (ex - 1 + 1074) ↔ Fp.N k ≤ (2 * s + d) * 2 ^ P) ∧ (Fp.gev k (2 * s + d) (ex - 1 + 1074) ↔ (2 * s + d) * 2 ^ P ≤ Fp.N k) := by
    intro k
    unfold Fp.lev Fp.gev
    rw [hP, show ((P : Int)).toNat = P by omega, show (-(P : Int)).toNat = 0 by omega, Nat.pow_zero, Nat.mul_one]
    exact ⟨Iff.rfl, Iff.rfl⟩
  have key : (4607182418800017408 ≤ Fp.rg x → (2 * s + d) * 2 ^ P ≤ Fp.N (Fp.rg x) ∧ Fp.N 4607182418800017408 ≤ (2 * s + d) * 2 ^ P) ∧
      (Fp.rg x ≤ 4607182418800017408 → Fp.N (Fp.rg x) ≤ (2 * s + d) * 2 ^ P ∧ (2 * s + d) * 2 ^ P ≤ Fp.N 4607182418800017408) := by
    have one1 : 4607182418800017408 ≤ Fp.rg x → Fp.N 4607182418800017408 ≤ Fp.N (Fp.rg x) := Fp.N_le
    have one2 : Fp.rg x ≤ 4607182418800017408 → Fp.N (Fp.rg x) ≤ Fp.N 4607182418800017408 := Fp.N_le
    rw [N_one] at *
    exact scale_all 1074 rfl s d n more i P ex (Fp.N (Fp.rg x)) _ hNn hsc2 hP hs2 hd s1 (fun f hf (_ : True) => Fp.root_bounds hn s1 s2 hd hl hl2 hmore hf) trivial one1 one2
  have up : 4607182418800017408 ≤ Fp.rg x → Fp.gev (Fp.rg x) (2 * s + d) (ex - 1 + 1074) ∧ Fp.lev 4607182418800017408 (2 * s + d) (ex - 1 + 1074) :=
    fun h => ⟨(lv _).2.2 (key.1 h).1, (lv _).1.2 (key.1 h).2⟩
  have dn : Fp.rg x ≤ 4607182418800017408 → Fp.lev (Fp.rg x) (2 * s + d) (ex - 1 + 1074) ∧ Fp.gev 4607182418800017408 (2 * s + d) (ex - 1 + 1074) :=
    fun h => ⟨(lv _).1.2 (key.2 h).1, (lv _).2.2 (key.2 h).2⟩
  have hfx : Fp.rg x < 9218868437227405312 := hf
  by_cases hc : 4607182418800017408 ≤ Fp.rg x
  · have a := r2 _ (up hc).1
    have b := r1 _ (up hc).2
    refine ⟨_, rfl, ?_⟩
    rw [Nat.min_eq_left (by omega)]
    exact ⟨by show 1 ≤ r; omega, by show r < _; omega, fun _ => a, fun h => by show _ ≤ r; omega⟩
  · have a := r1 _ (dn (by omega)).1
    have b := r2 _ (dn (by omega)).2
    refine ⟨_, rfl, ?_⟩
    rw [Nat.min_eq_left (by omega)]
    exact ⟨by show 1 ≤ r; omega, by show r < _; omega, fun h => by omega, fun _ => a⟩

theorem sqrt_neg {x : Nat} (h : Fp.nan x ∨ (Fp.sg x = true ∧ Fp.rg x ≠ 0)) : Ieee.double.sqrt x = none := by
  unfold Ieee.Format.sqrt
  rw [Fp.read_eq]
  by_cases hn : Fp.nan x
  · rw [Fp.dec_nan hn]; rfl
  · obtain ⟨hs, h0⟩ := h.resolve_left hn
    rw [hs]
    by_cases hf : Fp.rg x < 9218868437227405312
    · obtain ⟨m, k, e, _, hz⟩ := Fp.dec_num (s := true) hf
      have hm : m ≠ 0 := fun c => h0 (hz.1 c)
      rw [e]; simp [Ieee.Datum.root, hm]
    · have : Fp.rg x = 9218868437227405312 := by unfold Fp.nan at hn; omega
      rw [this, Fp.dec_inf]; rfl
theorem sqrt_zero {x : Nat} (hlt : x < 18446744073709551616) (h : Fp.rg x = 0) : Ieee.double.sqrt x = some x := by
  unfold Ieee.Format.sqrt
  rw [Fp.read_eq, h, show Fp.dec (Fp.sg x) 0 = .number (Fp.sg x) 0 (-1074) from rfl]
  simp only [Ieee.Datum.root, if_true, Option.map_some, Ieee.Format.write]
  have e : Ieee.double.nearest (Fp.sg x) 0 (-1074) = Fp.wd (Fp.sg x) 0 := by unfold Ieee.Format.nearest; rw [if_pos rfl, Fp.word_eq]
  rw [e, ← h, Fp.wd_sg_rg hlt]
theorem sqrt_inf : Ieee.double.sqrt 9218868437227405312 = some 9218868437227405312 := by
  unfold Ieee.Format.sqrt
  rw [show Ieee.double.read 9218868437227405312 = .infinity false by decide]
  rfl

theorem isNan_yes {x : Nat} (h : Fp.nan x) (w : World) : Calls Try.prog 16 #[.float .f64 x] w fun e w' => e = .returned (.bool true) ∧ w = w' := by
  have h1 := n_ne (x := x) (y := x) (.inl h)
  go_enter Try.func16, Try.ntmps16
  go_wp2
  go_ret
  exact ⟨rfl, rfl⟩
theorem isNan_no {x : Nat} (h : ¬ Fp.nan x) (w : World) : Calls Try.prog 16 #[.float .f64 x] w fun e w' => e = .returned (.bool false) ∧ w = w' := by
  have h1 := s_ne h
  go_enter Try.func16, Try.ntmps16
  go_wp2
  go_ret
  exact ⟨rfl, rfl⟩
theorem signNeg_zero {x : Nat} (h : Fp.rg x = 0) (w : World) : Calls Try.prog 18 #[.float .f64 x] w fun e w' => e = .returned (.bool (Fp.sg x)) ∧ w = w' := by
  have hn : ¬ Fp.nan x := by unfold Fp.nan; omega
  have hk : Fp.ky x = 0 := by rw [ky_val, h]; split <;> rfl
  have h1 : (FloatKind.f64.format.order x 0 == some .lt) = false := by rw [f_lt hn zero_nn, ky_zero, hk]; rfl
  have h3 := ord_zero' h
  have h7 := fun (t : TypeId) (W : World) => run_float_arith (P := Try.prog) W .quo t .f64 _ _ _ (show floatBits .quo .f64 4607182418800017408 x = _ from Fp.one_over_zero h)
  have h8 : (FloatKind.f64.format.order (Fp.wd (Fp.sg x) 9218868437227405312) 0 == some .lt) = Fp.sg x := by
    rw [f_lt (inf_not_nan _) zero_nn, ky_zero, ky_wd (by omega)]
    cases Fp.sg x <;> simp
  generalize Fp.wd (Fp.sg x) 9218868437227405312 = r at h7 h8
  generalize Fp.sg x = b at *
  clear hn hk h
  go_enter Try.func18, Try.ntmps18
  go_wp2
  go_ret
  exact ⟨rfl, rfl⟩
theorem same_zero {x : Nat} (h : Fp.rg x = 0) (w : World) : Calls Try.prog 17 #[.float .f64 x, .float .f64 x] w fun e w' => e = .returned (.bool true) ∧ w = w' := by
  have hn : ¬ Fp.nan x := by unfold Fp.nan; omega
  have h1 := s_ne hn
  have h3 := ord_zero' h
  have H := Lib.hid h
  clear h
  go_enter Try.func17, Try.ntmps17
  go_wp2_with (first | (go_at_call 16; (with_reducible refine (isNan_no hn _).mono ?_); rintro e w' ⟨rfl, rfl⟩) | (go_at_call 18; (with_reducible refine (signNeg_zero H.out _).mono ?_); rintro e w' ⟨rfl, rfl⟩))
  go_ret
  exact ⟨rfl, rfl⟩

theorem nan_case {a0 : Nat} (h : Ieee.double.sqrt a0 = none) (h2 : Fp.nan a0 ∨ ¬ Fp.nan a0 ∧ (FloatKind.f64.format.order a0 0 == some .lt) = true) (w : World) :
    Calls Try.prog 8 #[.float .f64 a0] w fun e w' => e = .returned (.bool true) ∧ Below w.heap.size w w' := by
  have h1 := x_sqrt_nan h
  have hq := fun t => isNan_nan (nanOf_isNan t)
  clear h
  rcases h2 with h2 | ⟨h2, h3⟩
  · go_enter Try.func8, Try.ntmps8
    go_wp2_with (first | (go_at_call 16; (with_reducible refine (isNan_yes (by assumption) _).mono ?_); rintro e w' ⟨rfl, rfl⟩) | (go_at_call 16; (with_reducible refine (isNan_yes (hq _) _).mono ?_); rintro e w' ⟨rfl, rfl⟩) | go_in)
    go_ret
    exact ⟨rfl, by go_grown⟩
  · go_enter Try.func8, Try.ntmps8
    go_wp2_with (first | (go_at_call 16; (with_reducible refine (isNan_no (by assumption) _).mono ?_); rintro e w' ⟨rfl, rfl⟩) | (go_at_call 16; (with_reducible refine (isNan_yes (hq _) _).mono ?_); rintro e w' ⟨rfl, rfl⟩) | go_in)
    go_ret
    exact ⟨rfl, by go_grown⟩

theorem zero_case {a0 : Nat} (hlt : a0 < 18446744073709551616) (h : Fp.rg a0 = 0) (w : World) :
    Calls Try.prog 8 #[.float .f64 a0] w fun e w' => e = .returned (.bool true) ∧ Below w.heap.size w w' := by
  have h1 := x_sqrt (sqrt_zero hlt h)
  have hn : ¬ Fp.nan a0 := by unfold Fp.nan; omega
  have hk : Fp.ky a0 = 0 := by rw [ky_val, h]; split <;> rfl
  have h2 : (FloatKind.f64.format.order a0 0 == some .lt) = false := by rw [f_lt hn zero_nn, ky_zero, hk]; rfl
  have h3 := ord_zero' h
  have H := Lib.hid h
  clear h hk hlt
  go_enter Try.func8, Try.ntmps8
  go_wp2_with (first | (go_at_call 16; (with_reducible refine (isNan_no (by assumption) _).mono ?_); rintro e w' ⟨rfl, rfl⟩) | (go_at_call 17; (with_reducible refine (same_zero H.out _).mono ?_); rintro e w' ⟨rfl, rfl⟩) | go_in)
  go_ret
  exact ⟨rfl, by go_grown⟩

theorem inf_case (w : World) :
    Calls Try.prog 8 #[.float .f64 9218868437227405312] w fun e w' => e = .returned (.bool true) ∧ Below w.heap.size w w' := by
  have h1 := x_sqrt sqrt_inf
  have hn : ¬ Fp.nan 9218868437227405312 := by decide
  have h2 : (FloatKind.f64.format.order 9218868437227405312 0 == some .lt) = false := by decide
  have h3 : (FloatKind.f64.format.order 9218868437227405312 0 == some .eq) = false := by decide
  have h4 : (FloatKind.f64.format.order 9218868437227405312 9218868437227405311 == some .gt) = true := by
    rw [f_gt hn (by decide)]; decide
  go_enter Try.func8, Try.ntmps8
  go_wp2_with (first | (go_at_call 16; (with_reducible refine (isNan_no (by assumption) _).mono ?_); rintro e w' ⟨rfl, rfl⟩) | go_in)
  go_ret
  exact ⟨rfl, by go_grown⟩

theorem num_case {x r : Nat} (hs : Ieee.double.sqrt x = some r) (nx : ¬ Fp.nan x) (nr : ¬ Fp.nan r) (kx : Fp.ky x = x) (kr : Fp.ky r = r) (x0 : x ≠ 0) (xf : x < 9218868437227405312)
    (r0 : 1 ≤ r) (rf : r < 9218868437227405312) (up : 4607182418800017408 ≤ x → r ≤ x) (dn : x ≤ 4607182418800017408 → x ≤ r) (w : World) :
    Calls Try.prog 8 #[.float .f64 x] w fun e w' => e = .returned (.bool true) ∧ Below w.heap.size w w' := by
  have h1 := x_sqrt hs
  have no : ¬ Fp.nan 4607182418800017408 := by decide
  have ko : Fp.ky 4607182418800017408 = 4607182418800017408 := by decide
  have nm : ¬ Fp.nan 9218868437227405311 := by decide
  have km : Fp.ky 9218868437227405311 = 9218868437227405311 := by decide
  have h2 : (FloatKind.f64.format.order x 0 == some .lt) = false := by rw [f_lt nx zero_nn, ky_zero, kx]; simp
  have h3 : (FloatKind.f64.format.order x 0 == some .eq) = false := by rw [f_eq nx zero_nn, ky_zero, kx]; simpa using x0
  have h4 : (FloatKind.f64.format.order x 9218868437227405311 == some .gt) = false := by rw [f_gt nx nm, km, kx]; simp; omega
  have h5 : (FloatKind.f64.format.order r 0 == some .gt) = true := by rw [f_gt nr zero_nn, ky_zero, kr]; simp; omega
  have h6 : (FloatKind.f64.format.order r 9218868437227405311 == some .lt || FloatKind.f64.format.order r 9218868437227405311 == some .eq) = true := by
    rw [f_lt nr nm, f_eq nr nm, km, kr]; simp; omega
  by_cases hc : 4607182418800017408 ≤ x
  · have h7 : (FloatKind.f64.format.order x 4607182418800017408 == some .gt || FloatKind.f64.format.order x 4607182418800017408 == some .eq) = true := by
      rw [f_gt nx no, f_eq nx no, ko, kx]; simp; omega
    have h8 : (FloatKind.f64.format.order r x == some .gt) = false := by rw [f_gt nr nx, kr, kx]; simp; exact up hc
    by_cases hd : x ≤ 4607182418800017408
    · have h9 : (FloatKind.f64.format.order x 4607182418800017408 == some .lt || FloatKind.f64.format.order x 4607182418800017408 == some .eq) = true := by
        rw [f_lt nx no, f_eq nx no, ko, kx]; simp; omega
      have h10 : (FloatKind.f64.format.order r x == some .lt) = false := by rw [f_lt nr nx, kr, kx]; simp; exact dn hd
      clear hs nr kx kr x0 xf r0 rf up dn no ko nm km hc hd
      go_enter Try.func8, Try.ntmps8
      go_wp2_with (first | (go_at_call 16; (with_reducible refine (isNan_no (by assumption) _).mono ?_); rintro e w' ⟨rfl, rfl⟩) | go_in)
      go_ret
      exact ⟨rfl, by go_grown⟩
    · have h9 : (FloatKind.f64.format.order x 4607182418800017408 == some .lt || FloatKind.f64.format.order x 4607182418800017408 == some .eq) = false := by
        rw [f_lt nx no, f_eq nx no, ko, kx]; simp; omega
      clear hs nr kx kr x0 xf r0 rf up dn no ko nm km hc hd
      go_enter Try.func8, Try.ntmps8
      go_wp2_with (first | (go_at_call 16; (with_reducible refine (isNan_no (by assumption) _).mono ?_); rintro e w' ⟨rfl, rfl⟩) | go_in)
      go_ret
      exact ⟨rfl, by go_grown⟩
  · have h7 : (FloatKind.f64.format.order x 4607182418800017408 == some .gt || FloatKind.f64.format.order x 4607182418800017408 == some .eq) = false := by
      rw [f_gt nx no, f_eq nx no, ko, kx]; simp; omega
    have h9 : (FloatKind.f64.format.order x 4607182418800017408 == some .lt || FloatKind.f64.format.order x 4607182418800017408 == some .eq) = true := by
      rw [f_lt nx no, f_eq nx no, ko, kx]; simp; omega
    have h10 : (FloatKind.f64.format.order r x == some .lt) = false := by rw [f_lt nr nx, kr, kx]; simp; exact dn (by omega)
    clear hs nr kx kr x0 xf r0 rf up dn no ko nm km hc
    go_enter Try.func8, Try.ntmps8
    go_wp2_with (first | (go_at_call 16; (with_reducible refine (isNan_no (by assumption) _).mono ?_); rintro e w' ⟨rfl, rfl⟩) | go_in)
    go_ret
    exact ⟨rfl, by go_grown⟩

theorem walk (a0 : Nat) (w : World) (w0 : (Lit.float .f64 a0).wf = true) :
    Calls Try.prog 8 #[.float .f64 a0] w fun e w' => e = .returned (.bool true) ∧ Below w.heap.size w w' := by
  have hlt := f64_range w0
  by_cases h : Fp.nan a0
  · exact nan_case (sqrt_neg (.inl h)) (.inl h) w
  by_cases h0 : Fp.rg a0 = 0
  · exact zero_case hlt h0 w
  by_cases hs : Fp.sg a0 = true
  · refine nan_case (sqrt_neg (.inr ⟨hs, h0⟩)) (.inr ⟨h, ?_⟩) w
    rw [f_lt h zero_nn, ky_zero, ky_val, hs]; simp; omega
  have hs : Fp.sg a0 = false := by simpa using hs
  have hx : Fp.rg a0 = a0 := by have := Fp.wd_sg_rg hlt; rw [hs] at this; exact this
  by_cases hf : Fp.fin a0
  · obtain ⟨r, e, r1, r2, r3, r4⟩ := root_word hf hs h0
    have hw : Fp.wd false r = r := rfl
    rw [hx] at r3 r4 h0
    unfold Fp.fin at hf
    rw [hx] at hf
    exact num_case e h (hw ▸ nan_wd (s := false) (by omega)) (by rw [ky_val, hs, hx]; rfl) (hw ▸ ky_wd (s := false) (r := r) (by omega)) h0 hf r1 r2 r3 r4 w
  · have : a0 = 9218868437227405312 := by unfold Fp.fin at hf; unfold Fp.nan at h; omega
    subst this
    exact inf_case w
end Go.Proofs.Ytbjbjhldigecmaa.fnSqrtCaseTable
