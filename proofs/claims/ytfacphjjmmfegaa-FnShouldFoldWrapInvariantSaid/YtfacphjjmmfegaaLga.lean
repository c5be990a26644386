/-
  The model's logarithm of a positive number: it is computed, and is no great number. No condition.
-/
import Derived.Test.YtfacphjjmmfegaaLg
namespace Go.Proofs.Ytfacphjjmmfegaa
open Go.Extern.MathAsm Go.Extern.MathLog Fp
set_option linter.unusedVariables false
set_option linter.unusedSimpArgs false

set_option exponentiation.threshold 2000 in
theorem val_iw {n : Int} (h : n.natAbs ≤ 9007199254740992) : val (iw n) = (n : Rat) := by
  have e : val (iw n) * cc = (n : Rat) * cc := by
    rw [val_cc, iw_sv h, Rat.intCast_mul, pow_cast]
    simp only [cc]
  exact Rat.le_antisymm (Rat.le_of_mul_le_mul_right (by rw [e]; exact Rat.le_refl) cc_pos) (Rat.le_of_mul_le_mul_right (by rw [e]; exact Rat.le_refl) cc_pos)
theorem iw_between {a b n : Int} {l h : Nat} (ha : a ≤ n) (hb : n ≤ b) (a1 : a.natAbs ≤ 2000) (b1 : b.natAbs ≤ 2000) (hl : l = iw a) (hh : h = iw b) : In l h (iw n) := by
  have na : n.natAbs ≤ 9007199254740992 := by omega
  refine ⟨iw_fin na, ?_, ?_⟩
  · rw [hl]; refine val_ky.1 ?_; rw [val_iw (n := a) (by omega), val_iw na]; exact Rat.intCast_le_intCast.2 ha
  · rw [hh]; refine val_ky.1 ?_; rw [val_iw na, val_iw (n := b) (by omega)]; exact Rat.intCast_le_intCast.2 hb
set_option maxRecDepth 100000 in
theorem lgUp (E M : Nat) (h1 : 0 < E * 4503599627370496 + M) (h2 : E ≤ 2046) (hM : M < 4503599627370496) (hs : 4604544271217802189 < 1022 * 4503599627370496 + M) :
    ∃ L, archLog #[.float .f64 (E * 4503599627370496 + M)] = pure (.float .f64 L) ∧ In 13873620127091523584 4650248090236747776 L := by
  obtain ⟨y, hy⟩ : ∃ y, y = 1022 * 4503599627370496 + M := ⟨_, rfl⟩
  have iy : In 4604544271217802189 4607182418800017407 y := in_pos (by omega) (by omega) (by omega)
  obtain ⟨κ, hκ⟩ : ∃ κ : Int, κ = (E : Int) - 1022 := ⟨_, rfl⟩
  obtain ⟨k, hk⟩ : ∃ k, k = iw κ := ⟨_, rfl⟩
  have h_k : Ieee.double.sub (iw ((E : Int) - 1022)) 0 = some k := by
    rw [hk, hκ, show (0 : Nat) = iw 0 by decide +kernel, iw_sub (by omega) (by omega)]
    rw [Int.sub_zero]
  have i_k : In 13875572859742453760 4652218415073722368 k := by rw [hk]; exact iw_between (a := -1022) (b := 1024) (by omega) (by omega) (by decide) (by decide) (by decide +kernel) (by decide +kernel)
  obtain ⟨g, h_g, i_g⟩ := add_in (In.self (x := 0) (finB_fin (by decide))) (In.self (x := 4607182418800017408) (finB_fin (by decide))) (lz := 4607182418800017408) (hz := 4607182418800017408) (by decide +kernel)
  obtain ⟨f1, h_f1, i_f1⟩ := mul_in iy i_g (lz := 4604544271217802189) (hz := 4607182418800017407) (by decide +kernel)
  obtain ⟨f, h_f, i_f⟩ := sub_in i_f1 (In.self (x := 4607182418800017408) (finB_fin (by decide))) (lz := 13822319951937112166) (hz := 13591863675404156928) (by decide +kernel)
  obtain ⟨tf, h_tf, i_tf⟩ := add_in (In.self (x := 4611686018427387904) (finB_fin (by decide))) i_f (lz := 4610366944636280294) (hz := 4611686018427387904) (by decide +kernel)
  obtain ⟨s, h_s, i_s, -⟩ := div_in i_f i_tf (lz := 13818721621441790775) (hz := 13587360075776786432) (by decide +kernel)
  obtain ⟨s2, h_s2, i_s2⟩ := mul_in i_s i_s (lz := 4120793659044003840) (hz := 4584141931487730255) (by decide +kernel)
  obtain ⟨s4, h_s4, i_s4⟩ := mul_in i_s2 i_s2 (lz := 3634404899287990272) (hz := 4561131752702070035) (by decide +kernel)
  obtain ⟨a1, h_a1, i_a1⟩ := mul_in (In.self (x := 4594499633228436036) (finB_fin (by decide))) i_s4 (lz := 3621722113716408900) (hz := 4548863025531620758) (by decide +kernel)
  obtain ⟨a2, h_a2, i_a2⟩ := add_in i_a1 (In.self (x := 4595719342595441630) (finB_fin (by decide))) (lz := 4595719342595441630) (hz := 4595723962714108418) (by decide +kernel)
  obtain ⟨a3, h_a3, i_a3⟩ := mul_in i_a2 i_s4 (lz := 3622941823083414494) (hz := 4549949433100734215) (by decide +kernel)
  obtain ⟨a4, h_a4, i_a4⟩ := add_in i_a3 (In.self (x := 4598818590951641945) (finB_fin (by decide))) (lz := 4598818590951641945) (hz := 4598821431483421195) (by decide +kernel)
  obtain ⟨a5, h_a5, i_a5⟩ := mul_in i_a4 i_s4 (lz := 3626041071439614809) (hz := 4553205303889393491) (by decide +kernel)
  obtain ⟨a6, h_a6, i_a6⟩ := add_in i_a5 (In.self (x := 4604180019048437139) (finB_fin (by decide))) (lz := 4604180019048437139) (hz := 4604182250337619362) (by decide +kernel)
  obtain ⟨t1, h_t1, i_t1⟩ := mul_in i_s2 i_a6 (lz := 4117791259292423571) (hz := 4581315796651296282) (by decide +kernel)
  obtain ⟨b1, h_b1, i_b1⟩ := mul_in (In.self (x := 4594685411790997151) (finB_fin (by decide))) i_s4 (lz := 3621907892278970015) (hz := 4549027875957022847) (by decide +kernel)
  obtain ⟨b2, h_b2, i_b2⟩ := add_in i_b1 (In.self (x := 4597174411056806063) (finB_fin (by decide))) (lz := 4597174411056806063) (hz := 4597179192162216408) (by decide +kernel)
  obtain ⟨b3, h_b3, i_b3⟩ := mul_in i_b2 i_s4 (lz := 3624396891544778927) (hz := 4551240729525203707) (by decide +kernel)
  obtain ⟨b4, h_b4, i_b4⟩ := add_in i_b3 (In.self (x := 4600877379321592324) (finB_fin (by decide))) (lz := 4600877379321592324) (hz := 4600880850369203835) (by decide +kernel)
  obtain ⟨t2, h_t2, i_t2⟩ := mul_in i_s4 i_b4 (lz := 3628099859809565188) (hz := 4555032727219201427) (by decide +kernel)
  obtain ⟨r, h_r, i_r⟩ := add_in i_t1 i_t2 (lz := 4117791259292423571) (hz := 4581415751394655665) (by decide +kernel)
  obtain ⟨hf, h_hf, i_hf⟩ := mul_in (In.self (x := 4602678819172646912) (finB_fin (by decide))) i_f (lz := 13817816352309741670) (hz := 13587360075776786432) (by decide +kernel)
  obtain ⟨q, h_q, i_q⟩ := mul_in i_hf i_f (lz := 4125297258671374336) (hz := 4586342385332273973) (by decide +kernel)
  obtain ⟨c1, h_c1, i_c1⟩ := add_in i_r i_q (lz := 4126798458547164516) (hz := 4589194835307962631) (by decide +kernel)
  obtain ⟨c2, h_c2, i_c2⟩ := mul_in i_s i_c1 (lz := 13800744028769428527) (hz := 13106976115523933540) (by decide +kernel)
  obtain ⟨c3, h_c3, i_c3⟩ := mul_in (In.self (x := 4461442080421002358) (finB_fin (by decide))) i_k (lz := 13729835695485124568) (hz := 4506478076694707318) (by decide +kernel)
  obtain ⟨inn, h_inn, i_inn⟩ := add_in i_c2 i_c3 (lz := 13800744141190554126) (hz := 4506478076694707318) (by decide +kernel)
  obtain ⟨d0, h_d0, i_d0⟩ := mul_in i_k (In.self (x := 4604418534311723008) (finB_fin (by decide))) (lz := 13872814373466050560) (hz := 4649454530585427968) (by decide +kernel)
  obtain ⟨d1, h_d1, i_d1⟩ := sub_in i_q i_inn (lz := 13729850113549483126) (hz := 4587897005970955193) (by decide +kernel)
  obtain ⟨d2, h_d2, i_d2⟩ := sub_in i_d1 i_f (lz := 13729850113545288822) (hz := 4599914938199231454) (by decide +kernel)
  obtain ⟨d3, h_d3, i_d3⟩ := sub_in i_d0 i_d2 (lz := 13872817421961305114) (hz := 4649454530587146736) (by decide +kernel)
  have e1 : (E * 4503599627370496 + M) % 2 ^ 63 = E * 4503599627370496 + M := by omega
  have e2 : (E * 4503599627370496 + M == 0) = false := by simp; omega
  have e3 : (E * 4503599627370496 + M) % 2 ^ 52 + half = y := by unfold half; omega
  have e4 : ofInt32 (Int.ofNat ((E * 4503599627370496 + M) / 2 ^ 52) - 1022) = iw ((E : Int) - 1022) := by
    rw [show (E * 4503599627370496 + M) / 2 ^ 52 = E by omega]; rfl
  have e5 : ¬ E * 4503599627370496 + M ≥ posInf := by unfold posInf; omega
  have e6 : ¬ E * 4503599627370496 + M ≥ 2 ^ 63 := by omega
  have hs' : (!lt 4604544271217802189 y) = false := by
    unfold lt
    rw [f_lt (x := 4604544271217802189) (y := y) (by decide) (nn_frac (by omega)), ky_frac (by omega), ky_frac (by omega)]
    simp; omega
  refine ⟨d3, ?_, i_d3.wide (by decide)⟩
  unfold archLog
  rw [log_arg]
  simp only [e1, e2, e3, e4, if_neg e5, if_neg e6, hs', Bool.false_eq_true, if_false, if_true]
  simp only [one, two, half]
  rw [a_sub h_k, p_bind, a_add h_g, p_bind, a_mul h_f1, p_bind, a_sub h_f, p_bind, a_add h_tf, p_bind, a_div h_s, p_bind, a_mul h_s2, p_bind, a_mul h_s4, p_bind, a_mul h_a1, p_bind, a_add h_a2, p_bind, a_mul h_a3, p_bind, a_add h_a4, p_bind, a_mul h_a5, p_bind, a_add h_a6, p_bind, a_mul h_t1, p_bind, a_mul h_b1, p_bind, a_add h_b2, p_bind, a_mul h_b3, p_bind, a_add h_b4, p_bind, a_mul h_t2, p_bind, a_add h_r, p_bind, a_mul h_hf, p_bind, a_mul h_q, p_bind, a_add h_c1, p_bind, a_mul h_c2, p_bind, a_mul h_c3, p_bind, a_add h_inn, p_bind, a_mul h_d0, p_bind, a_sub h_d1, p_bind, a_sub h_d2, p_bind, a_sub h_d3, p_bind]
set_option maxRecDepth 100000 in
theorem lgDown (E M : Nat) (h1 : 0 < E * 4503599627370496 + M) (h2 : E ≤ 2046) (hM : M < 4503599627370496) (hs : 1022 * 4503599627370496 + M ≤ 4604544271217802189) :
    ∃ L, archLog #[.float .f64 (E * 4503599627370496 + M)] = pure (.float .f64 L) ∧ In 13873620127091523584 4650248090236747776 L := by
  obtain ⟨y, hy⟩ : ∃ y, y = 1022 * 4503599627370496 + M := ⟨_, rfl⟩
  have iy : In 4602678819172646912 4604544271217802189 y := in_pos (by omega) (by omega) (by omega)
  obtain ⟨κ, hκ⟩ : ∃ κ : Int, κ = (E : Int) - 1022 - 1 := ⟨_, rfl⟩
  obtain ⟨k, hk⟩ : ∃ k, k = iw κ := ⟨_, rfl⟩
  have h_k : Ieee.double.sub (iw ((E : Int) - 1022)) 4607182418800017408 = some k := by
    rw [hk, hκ, show (4607182418800017408 : Nat) = iw 1 by decide +kernel, iw_sub (by omega) (by omega)]
  have i_k : In 13875581655835475968 4652209618980700160 k := by rw [hk]; exact iw_between (a := -1023) (b := 1023) (by omega) (by omega) (by decide) (by decide) (by decide +kernel) (by decide +kernel)
  obtain ⟨g, h_g, i_g⟩ := add_in (In.self (x := 4607182418800017408) (finB_fin (by decide))) (In.self (x := 4607182418800017408) (finB_fin (by decide))) (lz := 4611686018427387904) (hz := 4611686018427387904) (by decide +kernel)
  obtain ⟨f1, h_f1, i_f1⟩ := mul_in iy i_g (lz := 4607182418800017408) (hz := 4609047870845172685) (by decide +kernel)
  obtain ⟨f, h_f, i_f⟩ := sub_in i_f1 (In.self (x := 4607182418800017408) (finB_fin (by decide))) (lz := 0) (hz := 4601133428098527028) (by decide +kernel)
  obtain ⟨tf, h_tf, i_tf⟩ := add_in (In.self (x := 4611686018427387904) (finB_fin (by decide))) i_f (lz := 4611686018427387904) (hz := 4612618744449965543) (by decide +kernel)
  obtain ⟨s, h_s, i_s, -⟩ := div_in i_f i_tf (lz := 0) (hz := 4596629828471156532) (by decide +kernel)
  obtain ⟨s2, h_s2, i_s2⟩ := mul_in i_s i_s (lz := 0) (hz := 4586342385332273978) (by decide +kernel)
  obtain ⟨s4, h_s4, i_s4⟩ := mul_in i_s2 i_s2 (lz := 0) (hz := 4566127532978248279) (by decide +kernel)
  obtain ⟨a1, h_a1, i_a1⟩ := mul_in (In.self (x := 4594499633228436036) (finB_fin (by decide))) i_s4 (lz := 0) (hz := 4553657960638617342) (by decide +kernel)
  obtain ⟨a2, h_a2, i_a2⟩ := add_in i_a1 (In.self (x := 4595719342595441630) (finB_fin (by decide))) (lz := 4595719342595441630) (hz := 4595729151847383850) (by decide +kernel)
  obtain ⟨a3, h_a3, i_a3⟩ := mul_in i_a2 i_s4 (lz := 0) (hz := 4554816157401433520) (by decide +kernel)
  obtain ⟨a4, h_a4, i_a4⟩ := add_in i_a3 (In.self (x := 4598818590951641945) (finB_fin (by decide))) (lz := 4598818590951641945) (hz := 4598824626629139243) (by decide +kernel)
  obtain ⟨a5, h_a5, i_a5⟩ := mul_in i_a4 i_s4 (lz := 0) (hz := 4557993314620613315) (by decide +kernel)
  obtain ⟨a6, h_a6, i_a6⟩ := add_in i_a5 (In.self (x := 4604180019048437139) (finB_fin (by decide))) (lz := 4604180019048437139) (hz := 4604184759372020188) (by decide +kernel)
  obtain ⟨t1, h_t1, i_t1⟩ := mul_in i_s2 i_a6 (lz := 0) (hz := 4583905813624637633) (by decide +kernel)
  obtain ⟨b1, h_b1, i_b1⟩ := mul_in (In.self (x := 4594685411790997151) (finB_fin (by decide))) i_s4 (lz := 0) (hz := 4553832962567374680) (by decide +kernel)
  obtain ⟨b2, h_b2, i_b2⟩ := add_in i_b1 (In.self (x := 4597174411056806063) (finB_fin (by decide))) (lz := 4597174411056806063) (hz := 4597184562109390387) (by decide +kernel)
  obtain ⟨b3, h_b3, i_b3⟩ := mul_in i_b2 i_s4 (lz := 0) (hz := 4556187142295885910) (by decide +kernel)
  obtain ⟨b4, h_b4, i_b4⟩ := add_in i_b3 (In.self (x := 4600877379321592324) (finB_fin (by decide))) (lz := 4600877379321592324) (hz := 4600884753851525611) (by decide +kernel)
  obtain ⟨t2, h_t2, i_t2⟩ := mul_in i_s4 i_b4 (lz := 0) (hz := 4559933938083476589) (by decide +kernel)
  obtain ⟨r, h_r, i_r⟩ := add_in i_t1 i_t2 (lz := 0) (hz := 4584118148462509669) (by decide +kernel)
  obtain ⟨hf, h_hf, i_hf⟩ := mul_in (In.self (x := 4602678819172646912) (finB_fin (by decide))) i_f (lz := 0) (hz := 4596629828471156532) (by decide +kernel)
  obtain ⟨q, h_q, i_q⟩ := mul_in i_hf i_f (lz := 0) (hz := 4590845984959644474) (by decide +kernel)
  obtain ⟨c1, h_c1, i_c1⟩ := add_in i_r i_q (lz := 0) (hz := 4592961216723165908) (by decide +kernel)
  obtain ⟨c2, h_c2, i_c2⟩ := mul_in i_s i_c1 (lz := 0) (hz := 4582530512313016068) (by decide +kernel)
  obtain ⟨c3, h_c3, i_c3⟩ := mul_in (In.self (x := 4461442080421002358) (finB_fin (by decide))) i_k (lz := 13729842904517303847) (hz := 4506470867662528039) (by decide +kernel)
  obtain ⟨inn, h_inn, i_inn⟩ := add_in i_c2 i_c3 (lz := 13729842904517303847) (hz := 4582530568578579418) (by decide +kernel)
  obtain ⟨d0, h_d0, i_d0⟩ := mul_in i_k (In.self (x := 4604418534311723008) (finB_fin (by decide))) (lz := 13872820470453127168) (hz := 4649448433598351360) (by decide +kernel)
  obtain ⟨d1, h_d1, i_d1⟩ := sub_in i_q i_inn (lz := 13805902605433355226) (hz := 4590845999026035312) (by decide +kernel)
  obtain ⟨d2, h_d2, i_d2⟩ := sub_in i_d1 i_f (lz := 13824935049151437554) (hz := 4590845999026035312) (by decide +kernel)
  obtain ⟨d3, h_d3, i_d3⟩ := sub_in i_d0 i_d2 (lz := 13872821225040329667) (hz := 4649452286817286300) (by decide +kernel)
  have e1 : (E * 4503599627370496 + M) % 2 ^ 63 = E * 4503599627370496 + M := by omega
  have e2 : (E * 4503599627370496 + M == 0) = false := by simp; omega
  have e3 : (E * 4503599627370496 + M) % 2 ^ 52 + half = y := by unfold half; omega
  have e4 : ofInt32 (Int.ofNat ((E * 4503599627370496 + M) / 2 ^ 52) - 1022) = iw ((E : Int) - 1022) := by
    rw [show (E * 4503599627370496 + M) / 2 ^ 52 = E by omega]; rfl
  have e5 : ¬ E * 4503599627370496 + M ≥ posInf := by unfold posInf; omega
  have e6 : ¬ E * 4503599627370496 + M ≥ 2 ^ 63 := by omega
  have hs' : (!lt 4604544271217802189 y) = true := by
    unfold lt
    rw [f_lt (x := 4604544271217802189) (y := y) (by decide) (nn_frac (by omega)), ky_frac (by omega), ky_frac (by omega)]
    simp; omega
  refine ⟨d3, ?_, i_d3.wide (by decide)⟩
  unfold archLog
  rw [log_arg]
  simp only [e1, e2, e3, e4, if_neg e5, if_neg e6, hs', Bool.false_eq_true, if_false, if_true]
  simp only [one, two, half]
  rw [a_sub h_k, p_bind, a_add h_g, p_bind, a_mul h_f1, p_bind, a_sub h_f, p_bind, a_add h_tf, p_bind, a_div h_s, p_bind, a_mul h_s2, p_bind, a_mul h_s4, p_bind, a_mul h_a1, p_bind, a_add h_a2, p_bind, a_mul h_a3, p_bind, a_add h_a4, p_bind, a_mul h_a5, p_bind, a_add h_a6, p_bind, a_mul h_t1, p_bind, a_mul h_b1, p_bind, a_add h_b2, p_bind, a_mul h_b3, p_bind, a_add h_b4, p_bind, a_mul h_t2, p_bind, a_add h_r, p_bind, a_mul h_hf, p_bind, a_mul h_q, p_bind, a_add h_c1, p_bind, a_mul h_c2, p_bind, a_mul h_c3, p_bind, a_add h_inn, p_bind, a_mul h_d0, p_bind, a_sub h_d1, p_bind, a_sub h_d2, p_bind, a_sub h_d3, p_bind]
end Go.Proofs.Ytfacphjjmmfegaa
