/-
  The law FnCosAgainstTaylor's walk. No condition but the three tables of package math.
-/
import Derived.Test.YtkdlfggghgchjaaDoorCnu
import Derived.Test.YtkdlfggghgchjaaDoorKit
import Derived.WalkSmall
namespace Go.Proofs.YtkdlfggghgchjaaDoor.fnCosAgainstTaylor
open Go.ChangeShapes Go.WideShapes Go.ChangeAt Go.RowKit
set_option linter.unusedVariables false
set_option exponentiation.threshold 2000

theorem new4 (x : Nat) (w : World) : Calls Tryd.prog 4 #[.float .f64 x] w fun e w' => e = .returned (.agg #[.float .f64 x]) ∧ Below w.heap.size w w' := by
  go_enter Tryd.func4, Tryd.ntmps4
  go_wp2
  exact bodyPost_ret (by simp [results, Tryd.results4, go_sem]) rfl ⟨rfl, by go_grown⟩
theorem val6 (x : Nat) (w : World) : Calls Tryd.prog 6 #[.agg #[.float .f64 x]] w fun e w' => e = .returned (.float .f64 x) ∧ Below w.heap.size w w' := by
  go_enter Tryd.func6, Tryd.ntmps6
  go_wp2
  go_ret
  exact ⟨rfl, by go_grown⟩
theorem cos11 (x : Nat) (hx : x < 18446744073709551616) (w : World) (hT : CTabs w) : Calls Tryd.prog 11 #[.float .f64 x] w fun e w' => ∃ R, e = .returned (.float .f64 R) ∧ QC x R ∧ Below w.heap.size w w' := by
  have H := Lib.hid (cos13 x hx w hT)
  clear hT
  go_enter Tryd.func11, Tryd.ntmps11
  go_wp2_with (go_at_call 13; (with_reducible refine H.out.mono ?_); rintro _ _ ⟨R, rfl, hq, k, rfl⟩; have HQ := Lib.hid hq; clear hq)
  go_ret
  exact ⟨R, rfl, HQ.out, by first | exact below_drewN (Below.refl _ _) _ | exact below_drewN _ (Below.refl _ _) | exact below_drewN _ _ | go_grown⟩
theorem cos5 (x : Nat) (hx : x < 18446744073709551616) (w : World) (hT : CTabs w) : Calls Tryd.prog 5 #[.agg #[.float .f64 x]] w fun e w' => ∃ R, e = .returned (.agg #[.float .f64 R]) ∧ QC x R ∧ Below w.heap.size w w' := by
  have h3 := hT.size
  have HT := Lib.hid hT
  clear hT
  go_enter Tryd.func5, Tryd.ntmps5
  go_wp2_with fail
  refine (cos11 x hx _ (HT.out.below (B := w.heap.size) (((Below.refl _ w).alloc (Nat.le_refl _) _).alloc (by simp) _) h3)).mono ?_
  rintro e w1 ⟨R, rfl, hQ, hb⟩
  have HQ := Lib.hid hQ
  have c1 : w1.cell? ⟨w.heap.size + 1, 0, none⟩ = some (.float .f64 0) := by
    rw [hb.cell (p := ⟨w.heap.size + 1, 0, none⟩) (by simp)]; simp [go_sem]
  have f1 : w1.frozen? ⟨w.heap.size + 1, 0, none⟩ = false := by
    rw [hb.frozen (p := ⟨w.heap.size + 1, 0, none⟩) (by simp)]; simp [go_sem]
  have z1 : w.heap.size + 2 ≤ w1.heap.size := by have := hb.size; simpa using this
  have B1 : Hid (Below w.heap.size w w1) := (((Below.refl _ w).alloc (Nat.le_refl _) _).alloc (by simp) _).trans (hb.mono (by simp; omega))
  clear hQ hb
  go_wp2_with fail
  refine (new4 _ _).mono ?_
  rintro e w2 ⟨rfl, hb⟩
  have c2 : w2.cell? ⟨w.heap.size + 1, 0, none⟩ = some (.float .f64 0) := by
    rw [hb.cell (p := ⟨w.heap.size + 1, 0, none⟩) (by show w.heap.size + 1 < _; omega)]; exact c1
  have f2 : w2.frozen? ⟨w.heap.size + 1, 0, none⟩ = false := by
    rw [hb.frozen (p := ⟨w.heap.size + 1, 0, none⟩) (by show w.heap.size + 1 < _; omega)]; exact f1
  have B2 := Lib.hid (B1.out.trans (hb.mono (by omega)))
  clear hb c1 f1 B1
  go_wp2_with fail
  exact bodyPost_ret (by simp [results, Tryd.results5, go_sem, c2]) rfl ⟨_, rfl, HQ.out, B2.out.setCell (p := ⟨w.heap.size + 1, 0, none⟩) (by simp) _⟩
theorem DD_at : ∀ k : Nat, k < 14 → floatOfInt .f64 (wrap64 ((2 * ((k : Int) + 1) - 1) * (2 * ((k : Int) + 1)))) = DD k := by
  intro k hk
  have : k = 0 ∨ k = 1 ∨ k = 2 ∨ k = 3 ∨ k = 4 ∨ k = 5 ∨ k = 6 ∨ k = 7 ∨ k = 8 ∨ k = 9 ∨ k = 10 ∨ k = 11 ∨ k = 12 ∨ k = 13 := by omega
  rcases this with rfl | rfl | rfl | rfl | rfl | rfl | rfl | rfl | rfl | rfl | rfl | rfl | rfl | rfl <;> decide +kernel
def numOf : Value → Nat
  | .int _ i => i.toNat
  | _ => 0
theorem tay10 (x s : Nat) (h : TayCh x s) (w : World) : Calls Tryd.prog 10 #[.float .f64 x] w fun e w' => e = .returned (.float .f64 s) ∧ w = w' := by
  obtain ⟨xx, nx, T, S, M, t0, s0, s14, e1, e2, hk⟩ := h
  have HK := Lib.hid hk
  have HS := Lib.hid s14
  have g1 := fun (t : TypeId) (W : World) => run_float_arith (P := Tryd.prog) W .mul t .f64 _ _ _ (show floatBits .mul .f64 x x = some xx from e1)
  have g2 := fun (t : TypeId) (W : World) => run_float_arith (P := Tryd.prog) W .sub t .f64 _ _ _ (show floatBits .sub .f64 0 xx = some nx from e2)
  have H0 := Lib.hid (And.intro t0 s0)
  clear hk s14 e1 e2 t0 s0
  go_enter Tryd.func10, Tryd.ntmps10
  go_wp2_with fail
  go_loopw [3, 4, 5] (fun t s k wr => w = wr ∧ ∃ i : Nat, k = .int .i64 ((i : Int) + 1) ∧ i ≤ 14 ∧ t = .float .f64 (T i) ∧ s = .float .f64 (S i)) (fun _ _ k _ => 20 - numOf k)
  case atStart => exact ⟨by trivial, 0, rfl, by omega, by rw [H0.out.1], by rw [H0.out.2]⟩
  case round =>
    obtain ⟨rfl, i, rfl, hi, rfl, rfl⟩ := hrel
    by_cases hlt : i < 14
    · obtain ⟨k1, k2, k3⟩ := HK.out i hlt
      have hd := DD_at i hlt
      have g3 := fun (t : TypeId) (W : World) => run_float_arith (P := Tryd.prog) W .mul t .f64 _ _ _ (show floatBits .mul .f64 (T i) nx = some (M i) from k1)
      have g4 := fun (t : TypeId) (W : World) => run_float_arith (P := Tryd.prog) W .quo t .f64 _ _ _ (show floatBits .quo .f64 (M i) (DD i) = some (T (i + 1)) from k2)
      have g5 := fun (t : TypeId) (W : World) => run_float_arith (P := Tryd.prog) W .add t .f64 _ _ _ (show floatBits .add .f64 (S i) (T (i + 1)) = some (S (i + 1)) from k3)
      clear k1 k2 k3 hi
      generalize DD i = D at *
      generalize hT1 : T (i + 1) = T1 at *
      generalize hS1 : S (i + 1) = S1 at *
      generalize T i = T0 at *
      generalize S i = S0 at *
      generalize M i = M0 at *
      go_wp2_with fail
      exact ⟨⟨by trivial, i + 1, by push_cast; rfl, by omega, by rw [hT1], by rw [hS1]⟩, by show 20 - ((i : Int) + 1 + 1).toNat < 20 - ((i : Int) + 1).toNat; omega⟩
    · obtain rfl : i = 14 := by omega
      have := HS.out
      generalize hS1 : S 14 = S1 at *
      subst this
      go_wp2_with fail
      go_ret
      exact ⟨rfl, rfl⟩
theorem within9 (c s d : Nat) (hd : Ieee.double.sub c s = some d) (ho : Okd d) (w : World) : Calls Tryd.prog 9 #[.float .f64 c, .float .f64 s, .float .f64 4387073039832405526] w fun e w' => e = .returned (.bool true) ∧ w = w' := by
  have g1 := fun (t : TypeId) (W : World) => run_float_arith (P := Tryd.prog) W .sub t .f64 _ _ _ (show floatBits .sub .f64 c s = some d from hd)
  have g2 := fun (t : TypeId) (W : World) => run_float_arith (P := Tryd.prog) W .sub t .f64 _ _ _ (show floatBits .sub .f64 0 4387073039832405526 = some 13610445076687181334 by decide +kernel)
  obtain ⟨o1, o2, o3⟩ := ho
  have e1 : (FloatKind.f64.format.order d 4387073039832405526 == some .lt || FloatKind.f64.format.order d 4387073039832405526 == some .eq) = true := by
    rw [f_lt o1 (by decide), f_eq o1 (by decide)]; simp; omega
  have e2 : (FloatKind.f64.format.order d 13610445076687181334 == some .gt || FloatKind.f64.format.order d 13610445076687181334 == some .eq) = true := by
    rw [f_gt o1 (by decide), f_eq o1 (by decide)]; simp; omega
  clear hd o1 o2 o3
  go_enter Tryd.func9, Tryd.ntmps9
  go_wp2_with fail
  go_ret
  exact ⟨rfl, rfl⟩
theorem sub_self {x : Nat} (h : Fp.fin x) : ∃ r, Ieee.double.sub x x = some r ∧ (FloatKind.f64.format.order r 0 == some .eq) = true := by
  obtain ⟨r, e, n⟩ := Fp.fsub h h
  refine ⟨r, e, ?_⟩
  have hz : Fp.val x - Fp.val x = 0 := by grind
  have g1 := n.ge (k := 0) (by decide) (by rw [hz, v_zero]; exact Rat.le_refl)
  have g2 := n.le (k := 0) (by decide) (by rw [hz, v_zero]; exact Rat.le_refl)
  rw [f_eq n.nn zero_nn]
  simp; omega
theorem sub_nan {x : Nat} (h : ¬ Fp.fin x) : Ieee.double.sub x x = none := by
  unfold Ieee.Format.sub
  rw [Fp.read_eq]
  unfold Fp.fin at h
  by_cases e : Fp.rg x = 9218868437227405312
  · rw [e, Fp.dec_inf]; cases Fp.sg x <;> rfl
  · rw [Fp.dec_nan (by omega)]; rfl
theorem fin7 (x : Nat) (b : Bool) (h : decide (Fp.fin x) = b) (w : World) : Calls Tryd.prog 7 #[.float .f64 x] w fun e w' => e = .returned (.bool b) ∧ Below w.heap.size w w' := by
  cases b
  · have e1 := fun (t : TypeId) (W : World) => run_float_nan (P := Tryd.prog) W .sub t x x (by simp) (sub_nan (of_decide_eq_false h))
    have hq := fun r => n_eq (x := nanOf r) (y := 0) (.inl (isNan_nan (nanOf_isNan r)))
    clear h
    go_enter Tryd.func7, Tryd.ntmps7
    go_wp2_with fail
    go_ret
    exact ⟨rfl, (Below.refl _ _).drew⟩
  · obtain ⟨r, hr, h0⟩ := sub_self (of_decide_eq_true h)
    have e1 := fun (t : TypeId) (W : World) => run_float_arith (P := Tryd.prog) W .sub t .f64 _ _ _ (show floatBits .sub .f64 x x = some r from hr)
    clear h hr
    go_enter Tryd.func7, Tryd.ntmps7
    go_wp2_with fail
    go_ret
    exact ⟨rfl, Below.refl _ _⟩
theorem nan8 (x : Nat) (h : Fp.nan x) (w : World) : Calls Tryd.prog 8 #[.float .f64 x] w fun e w' => e = .returned (.bool true) ∧ w = w' := by
  have := n_ne (x := x) (y := x) (.inl h)
  clear h
  go_enter Tryd.func8, Tryd.ntmps8
  go_wp2_with fail
  go_ret
  exact ⟨rfl, rfl⟩
theorem tay_same {x X s : Nat} (hf : Fp.fin x) (hX : X = Fp.rg x) (h : TayCh X s) : TayCh x s := by
  obtain ⟨xx, nx, T, S, M, t0, s0, s14, e1, e2, hk⟩ := h
  refine ⟨xx, nx, T, S, M, t0, s0, s14, ?_, e2, hk⟩
  have hl := Fp.rg_lt x
  have fX : Fp.fin X := by unfold Fp.fin; rw [hX, Fp.rg_pos hl]; exact hf
  rw [Fp.mul_spec fX fX, hX, Fp.rg_pos hl, Fp.sg_pos hl] at e1
  rw [Fp.mul_spec hf hf, show (Fp.sg x ^^ Fp.sg x) = false by cases Fp.sg x <;> rfl]
  exact e1
set_option maxHeartbeats 2000000 in
theorem walk (a0 : Nat) (w : World) (w0 : (Lit.float .f64 a0).wf = true) (hT : CTabs w) :
    Calls Tryd.prog 3 #[.float .f64 a0] w fun e w' => e = .returned (.bool true) ∧ Below w.heap.size w w' := by
  have hx := f64_range w0
  have h3 := hT.size
  have HT := Lib.hid hT
  clear w0 hT
  go_enter Tryd.func3, Tryd.ntmps3
  go_wp2_with fail
  refine (new4 _ _).mono ?_
  rintro e w1 ⟨rfl, hb1⟩
  have HB1 := Lib.hid hb1
  clear hb1
  go_wp2_with fail
  refine (cos5 a0 hx _ (HT.out.below HB1.out h3)).mono ?_
  rintro e w2 ⟨R, rfl, hQ, hb2⟩
  have HQ := Lib.hid hQ
  have HB2 := Lib.hid (HB1.out.trans (hb2.mono HB1.out.size))
  clear hb2 hQ
  go_wp2_with fail
  refine (val6 R _).mono ?_
  rintro e w3 ⟨rfl, hb3⟩
  have HB3 := Lib.hid (HB2.out.trans (hb3.mono HB2.out.size))
  clear hb3
  obtain ⟨q1, q2, q3⟩ := HQ.out
  by_cases hf : Fp.fin a0
  · have HF := Lib.hid (fun W => fin7 a0 true (decide_eq_true hf) W)
    have hn : ¬ Fp.nan a0 := by unfold Fp.fin at hf; unfold Fp.nan; omega
    have k := ky_val a0
    have g1 := f_gt (x := a0) (y := 4607182418800017408) hn (by decide)
    have g2 := f_lt (x := a0) (y := 13830554455654793216) hn (by decide)
    rw [show Fp.ky 4607182418800017408 = 4607182418800017408 by decide] at g1
    rw [show Fp.ky 13830554455654793216 = -4607182418800017408 by decide] at g2
    by_cases h1 : Fp.rg a0 ≤ 4607182418800017408
    · rw [decide_eq_false (by split at k <;> omega)] at g1 g2
      by_cases h2 : Fp.rg a0 ≤ 4485585228861014016
      · obtain ⟨r1, r2⟩ := q2 h2
        have g3 : (FloatKind.f64.format.order a0 4485585228861014016 == some .lt || FloatKind.f64.format.order a0 4485585228861014016 == some .eq) = true := by
          rw [f_lt hn (by decide), f_eq hn (by decide), show Fp.ky 4485585228861014016 = 4485585228861014016 by decide]
          simp; split at k <;> omega
        have g4 : (FloatKind.f64.format.order a0 13708957265715789824 == some .gt || FloatKind.f64.format.order a0 13708957265715789824 == some .eq) = true := by
          rw [f_gt hn (by decide), f_eq hn (by decide), show Fp.ky 13708957265715789824 = -4485585228861014016 by decide]
          simp; split at k <;> omega
        have g5 := f_eq (x := R) (y := 4607182418800017408) r1 (by decide)
        rw [decide_eq_true (by rw [r2]; decide)] at g5
        clear q1 q2 q3 HQ r1 r2 k h1 h2 hf hn HB1 HB2
        go_wp2_with (go_at_call 7; (with_reducible refine (HF.out _).mono ?_); rintro _ w4 ⟨rfl, hb4⟩; have HB4 := Lib.hid (HB3.out.trans (hb4.mono HB3.out.size)); clear hb4)
        go_ret
        exact ⟨rfl, HB4.out⟩
      · obtain ⟨s, d, hs, hd, ho⟩ := q3 (by omega) h1
        have HY := Lib.hid (fun W => tay10 a0 s (tay_same hf rfl hs) W)
        have HW := Lib.hid (fun W => within9 R s d hd ho W)
        have fin : Hid (∀ w4, Below w.heap.size w w4 → True) := fun _ _ => trivial
        by_cases hp : Fp.sg a0 = true
        · rw [if_pos hp] at k
          have g3 : (FloatKind.f64.format.order a0 4485585228861014016 == some .lt || FloatKind.f64.format.order a0 4485585228861014016 == some .eq) = true := by
            rw [f_lt hn (by decide), f_eq hn (by decide), show Fp.ky 4485585228861014016 = 4485585228861014016 by decide]
            simp; omega
          have g4 : (FloatKind.f64.format.order a0 13708957265715789824 == some .gt || FloatKind.f64.format.order a0 13708957265715789824 == some .eq) = false := by
            rw [f_gt hn (by decide), f_eq hn (by decide), show Fp.ky 13708957265715789824 = -4485585228861014016 by decide]
            simp; omega
          clear q1 q2 q3 HQ k h1 h2 hf hn HB1 HB2 hs hd ho hp
          go_wp2_with (first
            | (go_at_call 7; (with_reducible refine (HF.out _).mono ?_); rintro _ w4 ⟨rfl, hb4⟩; have HB4 := Lib.hid (HB3.out.trans (hb4.mono HB3.out.size)); clear hb4)
            | (go_at_call 10; (with_reducible refine (HY.out _).mono ?_); rintro _ _ ⟨rfl, rfl⟩)
            | (go_at_call 9; (with_reducible refine (HW.out _).mono ?_); rintro _ _ ⟨rfl, rfl⟩))
          go_ret
          exact ⟨rfl, HB4.out⟩
        · rw [if_neg hp] at k
          have g3 : (FloatKind.f64.format.order a0 4485585228861014016 == some .lt || FloatKind.f64.format.order a0 4485585228861014016 == some .eq) = false := by
            rw [f_lt hn (by decide), f_eq hn (by decide), show Fp.ky 4485585228861014016 = 4485585228861014016 by decide]
            simp; omega
          clear q1 q2 q3 HQ k h1 h2 hf hn HB1 HB2 hs hd ho hp
          go_wp2_with (first
            | (go_at_call 7; (with_reducible refine (HF.out _).mono ?_); rintro _ w4 ⟨rfl, hb4⟩; have HB4 := Lib.hid (HB3.out.trans (hb4.mono HB3.out.size)); clear hb4)
            | (go_at_call 10; (with_reducible refine (HY.out _).mono ?_); rintro _ _ ⟨rfl, rfl⟩)
            | (go_at_call 9; (with_reducible refine (HW.out _).mono ?_); rintro _ _ ⟨rfl, rfl⟩))
          go_ret
          exact ⟨rfl, HB4.out⟩
    · by_cases hp : Fp.sg a0 = true
      · rw [if_pos hp] at k
        rw [decide_eq_false (by omega)] at g1
        rw [decide_eq_true (by omega)] at g2
        clear q1 q2 q3 HQ k h1 hf hn HB1 HB2 hp
        go_wp2_with (go_at_call 7; (with_reducible refine (HF.out _).mono ?_); rintro _ w4 ⟨rfl, hb4⟩; have HB4 := Lib.hid (HB3.out.trans (hb4.mono HB3.out.size)); clear hb4)
        go_ret
        exact ⟨rfl, HB4.out⟩
      · rw [if_neg hp] at k
        rw [decide_eq_true (by omega)] at g1
        clear q1 q2 q3 HQ k h1 hf hn HB1 HB2 hp g2
        go_wp2_with (go_at_call 7; (with_reducible refine (HF.out _).mono ?_); rintro _ w4 ⟨rfl, hb4⟩; have HB4 := Lib.hid (HB3.out.trans (hb4.mono HB3.out.size)); clear hb4)
        go_ret
        exact ⟨rfl, HB4.out⟩
  · have HF := Lib.hid (fun W => fin7 a0 false (decide_eq_false hf) W)
    have HN := Lib.hid (fun W => nan8 R (q1 (by unfold Fp.fin at hf; omega)) W)
    clear q1 q2 q3 HQ hf HB1 HB2
    go_wp2_with (first
      | (go_at_call 7; (with_reducible refine (HF.out _).mono ?_); rintro _ w4 ⟨rfl, hb4⟩; have HB4 := Lib.hid (HB3.out.trans (hb4.mono HB3.out.size)); clear hb4)
      | (go_at_call 8; (with_reducible refine (HN.out _).mono ?_); rintro _ _ ⟨rfl, rfl⟩))
    go_ret
    exact ⟨rfl, HB4.out⟩
end Go.Proofs.YtkdlfggghgchjaaDoor.fnCosAgainstTaylor
