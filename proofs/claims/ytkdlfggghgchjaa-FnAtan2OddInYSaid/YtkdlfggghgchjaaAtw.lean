/-
  Contracts of math.satan and math.Atan. No condition.
-/
import Derived.Test.YtkdlfggghgchjaaAtn
import Derived.Test.YtkdlfggghgchjaaMth
namespace Go.Proofs.Ytkdlfggghgchjaa
open Go.ChangeShapes Go.WideShapes Go.ChangeAt Go.RowKit Fp
set_option linter.unusedVariables false
set_option exponentiation.threshold 2000

theorem v_zero : val 0 = 0 := by decide +kernel
theorem sv_one : sv 1 = 1 := by decide +kernel
/-- A rounded sum of more than nothing. -/
theorem sum_pos {m x r : Nat} (n : Rnd (val m + val x) r) (h : 0 < val m + val x) : 0 < ky r := by
  have hs : 0 < sv m + sv x := by
    false_or_by_contra
    rename_i hc
    have := le_sum (a := 0) (b := m) (c := x) (by rw [show sv 0 = 0 by decide +kernel]; omega)
    rw [v_zero] at this
    grind
  have h1 := sum_le (a := 1) (b := m) (c := x) (by rw [sv_one]; omega)
  have := n.ge (k := 1) (by decide) h1
  rw [show ky 1 = 1 by decide] at this
  omega
/-- x * (1 + d), d from -1/3 to 0, is more than nothing. -/
theorem small_pos {x d m r : Nat} (ix : In 0 4604119971053405471 x) (hx : 0 < ky x) (id : In 13822500000000000000 0 d) (h1 : Ieee.double.mul x d = some m) (im : Fp.fin m) (h2 : Ieee.double.add m x = some r) : 0 < ky r ∧ ky r ≤ ky x ∧ r < 18446744073709551616 := by
  have n1 := mul_near ix id h1
  have n2 : Near (val m + val x) r := by
    obtain ⟨r', e1, e2⟩ := fadd im ix.fin
    rw [h2] at e1; cases e1; exact e2
  have vx : 0 < val x := by
    have := val_ky_lt.2 (show ky 0 < ky x by rw [show ky 0 = 0 by decide]; exact hx)
    rwa [v_zero] at this
  have b1 := id.vlo
  have b2 := id.vhi
  rw [v_zero] at b2
  have c1 : (-1 / 3 : Rat) ≤ val 13822500000000000000 := by decide +kernel
  have p1 := rmul_nn (a := -1 / 3) (x := val d) (y := val x) (by grind) (by grind)
  have p2 := rmul_nn (a := val d) (x := 0) (y := val x) b2 (by grind)
  have k0 := (n1.close im 0).2
  rw [v_zero] at k0
  have hm : 0 < val m + val x := by grind
  refine ⟨sum_pos n2.toRnd hm, ?_⟩
  have m0 := n1.le (k := 0) (by decide) (by rw [v_zero]; grind)
  have m1 := val_ky.2 m0
  rw [v_zero] at m1
  exact ⟨n2.le ix.fin (by grind), n2.lt⟩
/-- What satan gives of a positive word: a positive word, at most 1.8. -/
def Sat (S : Nat) : Prop := S < 18446744073709551616 ∧ 0 < ky S ∧ ky S ≤ 4610785298501913805
theorem Fp.In.widen {l h l' h' x : Nat} (i : In l h x) (c : decide (ky l' ≤ ky l) && decide (ky h ≤ ky h') = true) : In l' h' x := by
  simp only [Bool.and_eq_true, decide_eq_true_eq] at c
  exact i.wide c
theorem in_word {l h x : Nat} (h1 : l ≤ x) (h2 : x ≤ h) (h3 : h < 9218868437227405312) : In l h x := by
  refine ⟨?_, ?_, ?_⟩
  · unfold Fp.fin; rw [rg_pos (by omega)]; omega
  · rw [ky_pos (by omega), ky_pos (by omega)]; omega
  · rw [ky_pos (by omega), ky_pos (by omega)]; omega
theorem sat39 (u : Nat) (h0 : 0 < u) (hu : u ≤ 9218868437227405312) : ∃ S, (∀ w, Calls Try.prog 39 #[.float .f64 u] w fun e w' => e = .returned (.float .f64 S) ∧ w = w') ∧ Sat S := by
  have nn : ¬ nan u := nn_pos hu
  have kp := ky_pos (r := u) (by omega)
  have g1 := f_lt (x := u) (y := 4604119971053405471) nn (by decide)
  have g2 := f_eq (x := u) (y := 4604119971053405471) nn (by decide)
  have g3 := f_gt (x := u) (y := 4612618744449965542) nn (by decide)
  rw [kp, ky_pos (r := 4604119971053405471) (by omega)] at g1 g2
  rw [kp, ky_pos (r := 4612618744449965542) (by omega)] at g3
  by_cases ha : u ≤ 4604119971053405471
  · have ix : In 0 4604119971053405471 u := in_word (by omega) ha (by omega)
    obtain ⟨d, m, r, hc, id, im, ir, h1, h2⟩ := xatS ix
    obtain ⟨p1, p2, p3⟩ := small_pos ix (by rw [kp]; omega) (id.widen (by decide)) h1 im.fin h2
    refine ⟨r, fun w => ?_, p3, p1, by rw [kp] at p2; omega⟩
    have HC := Lib.hid hc
    by_cases hq : u = 4604119971053405471
    · rw [decide_eq_false (by omega)] at g1
      rw [decide_eq_true (by omega)] at g2
      clear p1 p2 p3 ix id im ir h1 h2 hc hq ha
      go_enter Try.func39, Try.ntmps39
      go_wp2_with (go_at_call 40; (with_reducible refine (HC.out _).mono ?_); rintro _ _ ⟨rfl, rfl⟩)
      go_ret
      exact ⟨rfl, rfl⟩
    · rw [decide_eq_true (by omega)] at g1
      rw [decide_eq_false (by omega)] at g2
      clear p1 p2 p3 ix id im ir h1 h2 hc hq ha
      go_enter Try.func39, Try.ntmps39
      go_wp2_with (go_at_call 40; (with_reducible refine (HC.out _).mono ?_); rintro _ _ ⟨rfl, rfl⟩)
      go_ret
      exact ⟨rfl, rfl⟩
  · rw [decide_eq_false (by omega)] at g1
    rw [decide_eq_false (by omega)] at g2
    by_cases hb : 4612618744449965542 < u
    · rw [decide_eq_true (by omega)] at g3
      -- the reciprocal
      have hv : ∃ v, Ieee.double.div 4607182418800017408 u = some v ∧ In 0 4604119971053405471 v := by
        by_cases hi : u = 9218868437227405312
        · subst hi
          exact ⟨0, by decide +kernel, in_word (by omega) (by omega) (by omega)⟩
        · obtain ⟨v, e, i, _⟩ := div_in (In.self (x := 4607182418800017408) (finB_fin (by decide))) (in_word (l := 4612618744449965542) (h := 9218868437227405311) (x := u) (by omega) (by omega) (by omega)) (lz := 0) (hz := 4604119971053405471) (by decide +kernel)
          exact ⟨v, e, i⟩
      obtain ⟨v, ev, iv⟩ := hv
      obtain ⟨d, m, r, hc, id, im, ir, h1, h2⟩ := xatS iv
      obtain ⟨t, et, it⟩ := sub_in (In.self (x := 4609753056924675352) (finB_fin (by decide))) (ir.widen (l' := 13819932647712555438) (h' := 4604119971053405471) (by decide)) (lz := 4606000000000000000) (hz := 4610700000000000000) (by decide +kernel)
      obtain ⟨S, eS, iS⟩ := add_in it (In.self (x := 4364452196894661639) (finB_fin (by decide))) (lz := 4606000000000000000) (hz := 4610785298501913805) (by decide +kernel)
      have e1 := fun (t : TypeId) (W : World) => run_float_arith (P := Try.prog) W .quo t .f64 _ _ _ (show floatBits .quo .f64 4607182418800017408 u = some v from ev)
      have e2 := fun (ty : TypeId) (W : World) => run_float_arith (P := Try.prog) W .sub ty .f64 _ _ _ (show floatBits .sub .f64 4609753056924675352 r = some t from et)
      have e3 := fun (ty : TypeId) (W : World) => run_float_arith (P := Try.prog) W .add ty .f64 _ _ _ (show floatBits .add .f64 t 4364452196894661639 = some S from eS)
      refine ⟨S, fun w => ?_, (add_near it (In.self (finB_fin (by decide))) eS).lt, by have := iS.lo; rw [ky_pos (r := 4606000000000000000) (by omega)] at this; omega, by have := iS.hi; rw [ky_pos (r := 4610785298501913805) (by omega)] at this; omega⟩
      have HC := Lib.hid hc
      clear iS it eS et ir im id h1 h2 hc iv ev ha hb kp nn h0 hu
      go_enter Try.func39, Try.ntmps39
      go_wp2_with (go_at_call 40; (with_reducible refine (HC.out _).mono ?_); rintro _ _ ⟨rfl, rfl⟩)
      go_ret
      exact ⟨rfl, rfl⟩
    · rw [decide_eq_false (by omega)] at g3
      have hv : ∃ n1 n2 v r, Ieee.double.sub u 4607182418800017408 = some n1 ∧ Ieee.double.add u 4607182418800017408 = some n2 ∧ Ieee.double.div n1 n2 = some v ∧
          (∀ w, Calls Try.prog 40 #[.float .f64 v] w fun e w' => e = .returned (.float .f64 r) ∧ w = w') ∧ In 13821900000000000000 4604600000000000000 r := by
        by_cases h1 : u ≤ 4607182418800017408
        · have iu : In 4604119971053405471 4607182418800017408 u := in_word (by omega) h1 (by omega)
          obtain ⟨n1, a1, i1⟩ := sub_in iu (In.self (x := 4607182418800017408) (finB_fin (by decide))) (lz := 13823168552265905602) (hz := 0) (by decide +kernel)
          obtain ⟨n2, a2, i2⟩ := add_in iu (In.self (x := 4607182418800017408) (finB_fin (by decide))) (lz := 4610154794554081935) (hz := 4611686018427387904) (by decide +kernel)
          obtain ⟨v, a3, i3, _⟩ := div_in i1 i2 (lz := 13819919449305821924) (hz := 0) (by decide +kernel)
          obtain ⟨d, m, r, hc, id, im, ir, h1, h2⟩ := xatA i3
          exact ⟨n1, n2, v, r, a1, a2, a3, hc, ir.widen (by decide)⟩
        · have iu : In 4607182418800017408 4612618744449965542 u := in_word (by omega) (by omega) (by omega)
          obtain ⟨n1, a1, i1⟩ := sub_in iu (In.self (x := 4607182418800017408) (finB_fin (by decide))) (lz := 0) (hz := 4609047870845172684) (by decide +kernel)
          obtain ⟨n2, a2, i2⟩ := add_in iu (In.self (x := 4607182418800017408) (finB_fin (by decide))) (lz := 4611686018427387904) (hz := 4614870544263650790) (by decide +kernel)
          obtain ⟨v, a3, i3, _⟩ := div_in i1 i2 (lz := 0) (hz := 4604544271217802188) (by decide +kernel)
          obtain ⟨d, m, r, hc, id, im, ir, h1, h2⟩ := xatB i3
          exact ⟨n1, n2, v, r, a1, a2, a3, hc, ir.widen (by decide)⟩
      obtain ⟨n1, n2, v, r, a1, a2, a3, hc, ir⟩ := hv
      obtain ⟨t, et, it⟩ := add_in (In.self (x := 4605249457297304856) (finB_fin (by decide))) ir (lz := 4600000000000000000) (hz := 4610700000000000000) (by decide +kernel)
      obtain ⟨S, eS, iS⟩ := add_in it (In.self (x := 4359948597267291143) (finB_fin (by decide))) (lz := 4600000000000000000) (hz := 4610785298501913805) (by decide +kernel)
      have e1 := fun (t : TypeId) (W : World) => run_float_arith (P := Try.prog) W .quo t .f64 _ _ _ (show floatBits .quo .f64 n1 n2 = some v from a3)
      have e2 := fun (ty : TypeId) (W : World) => run_float_arith (P := Try.prog) W .sub ty .f64 _ _ _ (show floatBits .sub .f64 u 4607182418800017408 = some n1 from a1)
      have e3 := fun (ty : TypeId) (W : World) => run_float_arith (P := Try.prog) W .add ty .f64 _ _ _ (show floatBits .add .f64 u 4607182418800017408 = some n2 from a2)
      have e4 := fun (ty : TypeId) (W : World) => run_float_arith (P := Try.prog) W .add ty .f64 _ _ _ (show floatBits .add .f64 4605249457297304856 r = some t from et)
      have e5 := fun (ty : TypeId) (W : World) => run_float_arith (P := Try.prog) W .add ty .f64 _ _ _ (show floatBits .add .f64 t 4359948597267291143 = some S from eS)
      refine ⟨S, fun w => ?_, (add_near it (In.self (finB_fin (by decide))) eS).lt, by have := iS.lo; rw [ky_pos (r := 4600000000000000000) (by omega)] at this; omega, by have := iS.hi; rw [ky_pos (r := 4610785298501913805) (by omega)] at this; omega⟩
      have HC := Lib.hid hc
      clear iS it eS et ir hc a1 a2 a3 ha hb kp nn h0 hu
      go_enter Try.func39, Try.ntmps39
      go_wp2_with (go_at_call 40; (with_reducible refine (HC.out _).mono ?_); rintro _ _ ⟨rfl, rfl⟩)
      go_ret
      exact ⟨rfl, rfl⟩
end Go.Proofs.Ytkdlfggghgchjaa
