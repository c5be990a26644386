/-
  The model's logarithm of a fraction: it is computed, and where it lies. No condition.
-/
import Derived.Test.YtfacphjjmmfegaaFri
import GoSem.Extern.MathLog
import Derived.WalkKit
import Derived.Laws.FloatArith
import Derived.Test.YtfacphjjmmfegaaFord
namespace Go.Proofs.Ytfacphjjmmfegaa
open Go.Extern.MathAsm Go.Extern.MathLog Fp
set_option linter.unusedVariables false

theorem a_add {x y r : Nat} (h : Ieee.double.add x y = some r) : add x y = pure r := by
  simp only [add, arith, Op.floatArith, show FloatKind.f64.format = Ieee.double from rfl, h]; rfl
theorem a_sub {x y r : Nat} (h : Ieee.double.sub x y = some r) : sub x y = pure r := by
  simp only [sub, arith, Op.floatArith, show FloatKind.f64.format = Ieee.double from rfl, h]; rfl
theorem a_mul {x y r : Nat} (h : Ieee.double.mul x y = some r) : mul x y = pure r := by
  simp only [mul, arith, Op.floatArith, show FloatKind.f64.format = Ieee.double from rfl, h]; rfl
theorem a_div {x y r : Nat} (h : Ieee.double.div x y = some r) : div x y = pure r := by
  simp only [div, arith, Op.floatArith, show FloatKind.f64.format = Ieee.double from rfl, h]; rfl
theorem p_bind {α β : Type} (a : α) (f : α → Sem β) : (pure a >>= f) = f a := rfl
theorem log_arg {α : Type} (x : Nat) (f : Nat → α) (g : Array Value → α) : archLog.match_1 (fun _ => α) #[.float .f64 x] f g = f x := rfl
theorem ky_frac {y : Nat} (hy : y < 9218868437227405312) : ky y = (y : Int) := by
  have a : y / 9223372036854775808 = 0 := Nat.div_eq_of_lt (by omega)
  have b : y % 9223372036854775808 = y := Nat.mod_eq_of_lt (by omega)
  simp [ky, key, sn, sg, rg, a, b]
theorem nn_frac {y : Nat} (hy : y < 9218868437227405312) : ¬ Fp.nan y := by unfold Fp.nan rg; omega
theorem in_pos {l h x : Nat} (h1 : l ≤ x) (h2 : x ≤ h) (h3 : h < 9218868437227405312) : In l h x := by
  refine ⟨?_, ?_, ?_⟩
  · unfold Fp.fin rg; rw [Nat.mod_eq_of_lt (by omega)]; omega
  · rw [ky_frac (by omega), ky_frac (by omega)]; omega
  · rw [ky_frac (by omega), ky_frac h3]; omega
theorem frac_facts (x : Nat) (h1 : 4602678819172646912 ≤ x) (h2 : x < 4607182418800017408) :
    x % 2 ^ 63 = x ∧ (x == 0) = false ∧ x % 2 ^ 52 + half = x ∧ ofInt32 (Int.ofNat (x / 2 ^ 52) - 1022) = 0 ∧ ¬ x ≥ posInf ∧ ¬ x ≥ 2 ^ 63 := by
  refine ⟨by omega, by simp; omega, by unfold half; omega, ?_, by unfold posInf; omega, by omega⟩
  rw [show x / 2 ^ 52 = 1022 by omega]; decide
theorem val_one : val 4607182418800017408 = 1 := by
  unfold val
  rw [show sv 4607182418800017408 = CC by decide +kernel, CC_cc]
  rw [Rat.div_def]; exact Rat.mul_inv_cancel _ cc_ne
theorem tiny_small : 4503599627370496 * tiny ≤ 1 := by
  refine Rat.le_of_mul_le_mul_right ?_ cc_pos
  rw [Rat.mul_assoc, show tiny * cc = 1 from Rat.inv_mul_cancel _ cc_ne, ← CC_cc, Rat.mul_one, Rat.one_mul]
  exact Rat.intCast_le_intCast.2 (show (4503599627370496 : Int) ≤ CC by decide +kernel)
/-- The word of 2 to the -52. -/
theorem val_52 : 4503599627370496 * val 4372995238176751616 = 1 := by
  have e : (4503599627370496 : Rat) * val 4372995238176751616 * cc = 1 * cc := by
    rw [Rat.mul_assoc, val_cc, Rat.one_mul, ← CC_cc, show CC = 4503599627370496 * sv 4372995238176751616 by decide +kernel, Rat.intCast_mul]; rfl
  exact Rat.le_antisymm (Rat.le_of_mul_le_mul_right (by rw [e]; exact Rat.le_refl) cc_pos) (Rat.le_of_mul_le_mul_right (by rw [e]; exact Rat.le_refl) cc_pos)
set_option maxRecDepth 100000 in
theorem lgA (x : Nat) (h1 : 4604544271217802189 < x) (h2 : x < 4607182418800017408) : ∃ r, archLog #[.float .f64 x] = pure (.float .f64 r) ∧ In 13823286971540847087 13591863675404156928 r := by
  have ix : In 4604544271217802189 4607182418800017407 x := in_pos (by omega) (by omega) (by omega)
  obtain ⟨k, h_k, i_k⟩ := sub_in (In.self (x := 0) (finB_fin (by decide))) (In.self (x := 0) (finB_fin (by decide))) (lz := 0) (hz := 0) (by decide +kernel)
  obtain ⟨g, h_g, i_g⟩ := add_in (In.self (x := 0) (finB_fin (by decide))) (In.self (x := 4607182418800017408) (finB_fin (by decide))) (lz := 4607182418800017408) (hz := 4607182418800017408) (by decide +kernel)
  obtain ⟨f1, h_f1, i_f1⟩ := mul_in ix i_g (lz := 4604544271217802189) (hz := 4607182418800017407) (by decide +kernel)
  obtain ⟨f, h_f, i_f⟩ := sub_in i_f1 (In.self (x := 4607182418800017408) (finB_fin (by decide))) (lz := 13822319951937112166) (hz := 13591863675404156928) (by decide +kernel)
  obtain ⟨tf, h_tf, i_tf⟩ := add_in (In.self (x := 4611686018427387904) (finB_fin (by decide))) i_f (lz := 4610366944636280294) (hz := 4611686018427387904) (by decide +kernel)
  obtain ⟨s, h_s, i_s, -⟩ := div_in i_f i_tf (lz := 13818721621441790775) (hz := 13587360075776786432) (by decide +kernel)
  obtain ⟨s2, h_s2, i_s2⟩ := mul_in i_s i_s (lz := 4120793659044003840) (hz := 4584141931487730255) (by decide +kernel)
  obtain ⟨s4, h_s4, i_s4⟩ := mul_in i_s2 i_s2 (lz := 3634404899287990272) (hz := 4561131752702070035) (by decide +kernel)
  obtain ⟨a1, h_a1, i_a1⟩ := mul_in (In.self (x := 4594499633228436036) (finB_fin (by decide))) i_s4 (lz := 3621722113716408900) (hz := 4548863025531620758) (by decide +kernel)
  obtain ⟨a2, h_a2, i_a2⟩ := add_in i_a1 (In.self (x := 4595719342595441630) (finB_fin (by decide))) (lz := 4595719342595441630) (hz := 4595723962714108418) (by decide +kernel)
  obtain ⟨a3, h_a3, i_a3⟩ := mul_in i_a2 i_s4 (lz := 3622941823083414494) (hz := 4549949433100734215) (by decide +kernel)
  obtain ⟨a4, h_a4, i_a4⟩ := add_in i_a3 (In.self (x := 4598818590951641945) (finB_fin (by decide))) (lz := 4598818590951641945) (hz := 4598821431483421195) (by decide +kernel)
  obtain ⟨a5, h_a5, i_a5⟩ := mul_in i_a4 i_s4 (lz := 3626041071439614809) (hz := 4553205303889393491) (by decide +kernel)
  obtain ⟨a6, h_a6, i_a6⟩ := add_in i_a5 (In.self (x := 4604180019048437139) (finB_fin (by decide))) (lz := 4604180019048437139) (hz := 4604182250337619362) (by decide +kernel)
  obtain ⟨t1, h_t1, i_t1⟩ := mul_in i_s2 i_a6 (lz := 4117791259292423571) (hz := 4581315796651296282) (by decide +kernel)
  obtain ⟨b1, h_b1, i_b1⟩ := mul_in (In.self (x := 4594685411790997151) (finB_fin (by decide))) i_s4 (lz := 3621907892278970015) (hz := 4549027875957022847) (by decide +kernel)
  obtain ⟨b2, h_b2, i_b2⟩ := add_in i_b1 (In.self (x := 4597174411056806063) (finB_fin (by decide))) (lz := 4597174411056806063) (hz := 4597179192162216408) (by decide +kernel)
  obtain ⟨b3, h_b3, i_b3⟩ := mul_in i_b2 i_s4 (lz := 3624396891544778927) (hz := 4551240729525203707) (by decide +kernel)
  obtain ⟨b4, h_b4, i_b4⟩ := add_in i_b3 (In.self (x := 4600877379321592324) (finB_fin (by decide))) (lz := 4600877379321592324) (hz := 4600880850369203835) (by decide +kernel)
  obtain ⟨t2, h_t2, i_t2⟩ := mul_in i_s4 i_b4 (lz := 3628099859809565188) (hz := 4555032727219201427) (by decide +kernel)
  obtain ⟨r, h_r, i_r⟩ := add_in i_t1 i_t2 (lz := 4117791259292423571) (hz := 4581415751394655665) (by decide +kernel)
  obtain ⟨hf, h_hf, i_hf⟩ := mul_in (In.self (x := 4602678819172646912) (finB_fin (by decide))) i_f (lz := 13817816352309741670) (hz := 13587360075776786432) (by decide +kernel)
  obtain ⟨q, h_q, i_q⟩ := mul_in i_hf i_f (lz := 4125297258671374336) (hz := 4586342385332273973) (by decide +kernel)
  obtain ⟨c1, h_c1, i_c1⟩ := add_in i_r i_q (lz := 4126798458547164516) (hz := 4589194835307962631) (by decide +kernel)
  obtain ⟨c2, h_c2, i_c2⟩ := mul_in i_s i_c1 (lz := 13800744028769428527) (hz := 13106976115523933540) (by decide +kernel)
  obtain ⟨c3, h_c3, i_c3⟩ := mul_in (In.self (x := 4461442080421002358) (finB_fin (by decide))) i_k (lz := 0) (hz := 0) (by decide +kernel)
  obtain ⟨inn, h_inn, i_inn⟩ := add_in i_c2 i_c3 (lz := 13800744028769428527) (hz := 13106976115523933540) (by decide +kernel)
  obtain ⟨d0, h_d0, i_d0⟩ := mul_in i_k (In.self (x := 4604418534311723008) (finB_fin (by decide))) (lz := 0) (hz := 0) (by decide +kernel)
  obtain ⟨d1, h_d1, i_d1⟩ := sub_in i_q i_inn (lz := 4125297258671374336) (hz := 4587896977865673793) (by decide +kernel)
  obtain ⟨d2, h_d2, i_d2⟩ := sub_in i_d1 i_f (lz := 4368491638549381120) (hz := 4599914934686071279) (by decide +kernel)
  obtain ⟨d3, h_d3, i_d3⟩ := sub_in i_d0 i_d2 (lz := 13823286971540847087) (hz := 13591863675404156928) (by decide +kernel)
  refine ⟨d3, ?_, i_d3⟩
  obtain ⟨e1, e2, e3, e4, e5, e6⟩ := frac_facts x (by omega) (by omega)
  have hs : (!lt 4604544271217802189 x) = false := by
    unfold lt
    rw [f_lt (x := 4604544271217802189) (y := x) (by decide) (nn_frac (by omega)), ky_frac (by omega), ky_frac (by omega)]
    simp; omega
  unfold archLog
  rw [log_arg]
  simp only [e1, e2, e3, e4, if_neg e5, if_neg e6, hs, Bool.false_eq_true, if_false]
  simp only [one, two, half]
  rw [a_sub h_k, p_bind, a_add h_g, p_bind, a_mul h_f1, p_bind, a_sub h_f, p_bind, a_add h_tf, p_bind, a_div h_s, p_bind, a_mul h_s2, p_bind, a_mul h_s4, p_bind, a_mul h_a1, p_bind, a_add h_a2, p_bind, a_mul h_a3, p_bind, a_add h_a4, p_bind, a_mul h_a5, p_bind, a_add h_a6, p_bind, a_mul h_t1, p_bind, a_mul h_b1, p_bind, a_add h_b2, p_bind, a_mul h_b3, p_bind, a_add h_b4, p_bind, a_mul h_t2, p_bind, a_add h_r, p_bind, a_mul h_hf, p_bind, a_mul h_q, p_bind, a_add h_c1, p_bind, a_mul h_c2, p_bind, a_mul h_c3, p_bind, a_add h_inn, p_bind, a_mul h_d0, p_bind, a_sub h_d1, p_bind, a_sub h_d2, p_bind, a_sub h_d3, p_bind]
set_option maxRecDepth 100000 in
theorem lgB (x : Nat) (h1 : 4602678819172646912 ≤ x) (h2 : x ≤ 4604544271217802189) : ∃ r, archLog #[.float .f64 x] = pure (.float .f64 r) ∧ In 13827790571169200976 13821638897446854330 r := by
  have ix : In 4602678819172646912 4604544271217802189 x := in_pos h1 h2 (by omega)
  obtain ⟨k, h_k, i_k⟩ := sub_in (In.self (x := 0) (finB_fin (by decide))) (In.self (x := 4607182418800017408) (finB_fin (by decide))) (lz := 13830554455654793216) (hz := 13830554455654793216) (by decide +kernel)
  obtain ⟨g, h_g, i_g⟩ := add_in (In.self (x := 4607182418800017408) (finB_fin (by decide))) (In.self (x := 4607182418800017408) (finB_fin (by decide))) (lz := 4611686018427387904) (hz := 4611686018427387904) (by decide +kernel)
  obtain ⟨f1, h_f1, i_f1⟩ := mul_in ix i_g (lz := 4607182418800017408) (hz := 4609047870845172685) (by decide +kernel)
  obtain ⟨f, h_f, i_f⟩ := sub_in i_f1 (In.self (x := 4607182418800017408) (finB_fin (by decide))) (lz := 0) (hz := 4601133428098527028) (by decide +kernel)
  obtain ⟨tf, h_tf, i_tf⟩ := add_in (In.self (x := 4611686018427387904) (finB_fin (by decide))) i_f (lz := 4611686018427387904) (hz := 4612618744449965543) (by decide +kernel)
  obtain ⟨s, h_s, i_s, -⟩ := div_in i_f i_tf (lz := 0) (hz := 4596629828471156532) (by decide +kernel)
  obtain ⟨s2, h_s2, i_s2⟩ := mul_in i_s i_s (lz := 0) (hz := 4586342385332273978) (by decide +kernel)
  obtain ⟨s4, h_s4, i_s4⟩ := mul_in i_s2 i_s2 (lz := 0) (hz := 4566127532978248279) (by decide +kernel)
  obtain ⟨a1, h_a1, i_a1⟩ := mul_in (In.self (x := 4594499633228436036) (finB_fin (by decide))) i_s4 (lz := 0) (hz := 4553657960638617342) (by decide +kernel)
  obtain ⟨a2, h_a2, i_a2⟩ := add_in i_a1 (In.self (x := 4595719342595441630) (finB_fin (by decide))) (lz := 4595719342595441630) (hz := 4595729151847383850) (by decide +kernel)
  obtain ⟨a3, h_a3, i_a3⟩ := mul_in i_a2 i_s4 (lz := 0) (hz := 4554816157401433520) (by decide +kernel)
  obtain ⟨a4, h_a4, i_a4⟩ := add_in i_a3 (In.self (x := 4598818590951641945) (finB_fin (by decide))) (lz := 4598818590951641945) (hz := 4598824626629139243) (by decide +kernel)
  obtain ⟨a5, h_a5, i_a5⟩ := mul_in i_a4 i_s4 (lz := 0) (hz := 4557993314620613315) (by decide +kernel)
  obtain ⟨a6, h_a6, i_a6⟩ := add_in i_a5 (In.self (x := 4604180019048437139) (finB_fin (by decide))) (lz := 4604180019048437139) (hz := 4604184759372020188) (by decide +kernel)
  obtain ⟨t1, h_t1, i_t1⟩ := mul_in i_s2 i_a6 (lz := 0) (hz := 4583905813624637633) (by decide +kernel)
  obtain ⟨b1, h_b1, i_b1⟩ := mul_in (In.self (x := 4594685411790997151) (finB_fin (by decide))) i_s4 (lz := 0) (hz := 4553832962567374680) (by decide +kernel)
  obtain ⟨b2, h_b2, i_b2⟩ := add_in i_b1 (In.self (x := 4597174411056806063) (finB_fin (by decide))) (lz := 4597174411056806063) (hz := 4597184562109390387) (by decide +kernel)
  obtain ⟨b3, h_b3, i_b3⟩ := mul_in i_b2 i_s4 (lz := 0) (hz := 4556187142295885910) (by decide +kernel)
  obtain ⟨b4, h_b4, i_b4⟩ := add_in i_b3 (In.self (x := 4600877379321592324) (finB_fin (by decide))) (lz := 4600877379321592324) (hz := 4600884753851525611) (by decide +kernel)
  obtain ⟨t2, h_t2, i_t2⟩ := mul_in i_s4 i_b4 (lz := 0) (hz := 4559933938083476589) (by decide +kernel)
  obtain ⟨r, h_r, i_r⟩ := add_in i_t1 i_t2 (lz := 0) (hz := 4584118148462509669) (by decide +kernel)
  obtain ⟨hf, h_hf, i_hf⟩ := mul_in (In.self (x := 4602678819172646912) (finB_fin (by decide))) i_f (lz := 0) (hz := 4596629828471156532) (by decide +kernel)
  obtain ⟨q, h_q, i_q⟩ := mul_in i_hf i_f (lz := 0) (hz := 4590845984959644474) (by decide +kernel)
  obtain ⟨c1, h_c1, i_c1⟩ := add_in i_r i_q (lz := 0) (hz := 4592961216723165908) (by decide +kernel)
  obtain ⟨c2, h_c2, i_c2⟩ := mul_in i_s i_c1 (lz := 0) (hz := 4582530512313016068) (by decide +kernel)
  obtain ⟨c3, h_c3, i_c3⟩ := mul_in (In.self (x := 4461442080421002358) (finB_fin (by decide))) i_k (lz := 13684814117275778166) (hz := 13684814117275778166) (by decide +kernel)
  obtain ⟨inn, h_inn, i_inn⟩ := add_in i_c2 i_c3 (lz := 13684814117275778166) (hz := 4582530512258015518) (by decide +kernel)
  obtain ⟨d0, h_d0, i_d0⟩ := mul_in i_k (In.self (x := 4604418534311723008) (finB_fin (by decide))) (lz := 13827790571166498816) (hz := 13827790571166498816) (by decide +kernel)
  obtain ⟨d1, h_d1, i_d1⟩ := sub_in i_q i_inn (lz := 13805902549112791326) (hz := 4590845984973394612) (by decide +kernel)
  have i_d2 : ∃ d2, Ieee.double.sub d1 f = some d2 ∧ In 13824935045631402310 4464366475030941260 d2 := by
    obtain ⟨d2, h_d2, n_d2⟩ := fsub i_d1.fin i_f.fin
    refine ⟨d2, h_d2, n_d2.toRnd.isIn (finB_fin (by decide)) (finB_fin (by decide)) ?_ ?_⟩
    · have k1 := i_d1.vlo; have k2 := i_f.vhi
      have k3 : val 13824935045631402310 + val 4601133428098527028 ≤ val 13805902549112791326 := le_sum (by decide +kernel)
      grind
    · have nq := mul_near i_hf i_f h_q
      have nd := sub_near i_q i_inn h_d1
      have f0 : 0 ≤ val f := by have := i_f.vlo; rwa [show val 0 = 0 by decide +kernel] at this
      have hq1 : val hf ≤ 1 := by rw [← val_one]; exact Rat.le_trans i_hf.vhi (val_ky.2 (by decide +kernel))
      have hq : val q ≤ val f := val_ky.2 (nq.le i_f.fin (by have := rmul_nn hq1 f0; grind))
      have b1 := i_inn.vlo
      have b2 := i_inn.vhi
      have b3 := i_q.vlo
      have b4 := i_q.vhi
      have l1 : val 4582530512258015518 ≤ val 4602678819172646912 := val_ky.2 (by decide +kernel)
      have l2 : val 13826050856027422720 ≤ val 13684814117275778166 := val_ky.2 (by decide +kernel)
      have l3 : val 4590845984959644474 ≤ val 4602678819172646912 := val_ky.2 (by decide +kernel)
      have l4 : val 0 = 0 := by decide +kernel
      have l5 : val 4602678819172646912 + val 4602678819172646912 ≤ val 4607182418800017408 := le_sum (by decide +kernel)
      have l6 : val 13826050856027422720 = - val 4602678819172646912 := by decide +kernel
      rw [val_one] at l5
      have ee := (nd.err i_d1.fin 1 (by grind) (by grind)).1
      have hc : val 4461442080421002358 + val 4372995238176751616 ≤ val 4464366475030941260 := le_sum (by decide +kernel)
      have hc2 : val 13684814117275778166 = - val 4461442080421002358 := by decide +kernel
      have ht := tiny_small
      have h52 := val_52
      grind
  obtain ⟨d2, h_d2, i_d2⟩ := i_d2
  obtain ⟨d3, h_d3, i_d3⟩ := sub_in i_d0 i_d2 (lz := 13827790571169200976) (hz := 13821638897446854330) (by decide +kernel)
  refine ⟨d3, ?_, i_d3⟩
  obtain ⟨e1, e2, e3, e4, e5, e6⟩ := frac_facts x (by omega) (by omega)
  have hs : (!lt 4604544271217802189 x) = true := by
    unfold lt
    rw [f_lt (x := 4604544271217802189) (y := x) (by decide) (nn_frac (by omega)), ky_frac (by omega), ky_frac (by omega)]
    simp; omega
  unfold archLog
  rw [log_arg]
  simp only [e1, e2, e3, e4, if_neg e5, if_neg e6, hs, Bool.false_eq_true, if_false, if_true]
  simp only [one, two, half]
  rw [a_sub h_k, p_bind, a_add h_g, p_bind, a_mul h_f1, p_bind, a_sub h_f, p_bind, a_add h_tf, p_bind, a_div h_s, p_bind, a_mul h_s2, p_bind, a_mul h_s4, p_bind, a_mul h_a1, p_bind, a_add h_a2, p_bind, a_mul h_a3, p_bind, a_add h_a4, p_bind, a_mul h_a5, p_bind, a_add h_a6, p_bind, a_mul h_t1, p_bind, a_mul h_b1, p_bind, a_add h_b2, p_bind, a_mul h_b3, p_bind, a_add h_b4, p_bind, a_mul h_t2, p_bind, a_add h_r, p_bind, a_mul h_hf, p_bind, a_mul h_q, p_bind, a_add h_c1, p_bind, a_mul h_c2, p_bind, a_mul h_c3, p_bind, a_add h_inn, p_bind, a_mul h_d0, p_bind, a_sub h_d1, p_bind, a_sub h_d2, p_bind, a_sub h_d3, p_bind]
end Go.Proofs.Ytfacphjjmmfegaa
