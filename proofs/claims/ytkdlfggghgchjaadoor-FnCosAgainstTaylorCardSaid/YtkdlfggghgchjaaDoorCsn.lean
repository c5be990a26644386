/-
  The cosine's and sine's polynomials of package math and the law's series, step by step, and how far they are off. No condition.
-/
import Derived.Test.YtkdlfggghgchjaaDoorFer
namespace Go.Proofs.YtkdlfggghgchjaaDoor
open Fp
set_option linter.unusedVariables false
set_option exponentiation.threshold 2000

theorem v_zero : val 0 = 0 := by decide +kernel
theorem v_one : val 4607182418800017408 = 1 := by decide +kernel
theorem v_half : val 4602678819172646912 = 1 / 2 := by decide +kernel
/-- The cosine's polynomial of z gives c, step by step. -/
def CosCh (z c : Nat) : Prop := ∃ zz a1 a2 b p1 p2 p3 p4 p5 p6 p7 p8 p9 p10 m, Ieee.double.mul z z = some zz ∧ Ieee.double.mul 4602678819172646912 zz = some a1 ∧ Ieee.double.sub 4607182418800017408 a1 = some a2 ∧ Ieee.double.mul zz zz = some b ∧ Ieee.double.mul 13666448263388469915 zz = some p1 ∧ Ieee.double.add p1 4477121864728985349 = some p2 ∧ Ieee.double.mul p2 zz = some p3 ∧ Ieee.double.add p3 13732177093698800582 = some p4 ∧ Ieee.double.mul p4 zz = some p5 ∧ Ieee.double.add p5 4537941361668146421 = some p6 ∧ Ieee.double.mul p6 zz = some p7 ∧ Ieee.double.add p7 13787419979223748497 = some p8 ∧ Ieee.double.mul p8 zz = some p9 ∧ Ieee.double.add p9 4586165620538955083 = some p10 ∧ Ieee.double.mul b p10 = some m ∧ Ieee.double.add a2 m = some c
/-- The sine's polynomial of z gives c, step by step. -/
def SinCh (z c : Nat) : Prop := ∃ zz b p1 p2 p3 p4 p5 p6 p7 p8 p9 p10 m, Ieee.double.mul z z = some zz ∧ Ieee.double.mul z zz = some b ∧ Ieee.double.mul 4460209587652500685 zz = some p1 ∧ Ieee.double.add p1 13716528389658582877 = some p2 ∧ Ieee.double.mul p2 zz = some p3 ∧ Ieee.double.add p3 4523617212962785441 = some p4 ∧ Ieee.double.mul p4 zz = some p5 ∧ Ieee.double.add p5 13774824197404483331 = some p6 ∧ Ieee.double.mul p6 zz = some p7 ∧ Ieee.double.add p7 4575957461383575504 = some p8 ∧ Ieee.double.mul p8 zz = some p9 ∧ Ieee.double.add p9 13818544856648471880 = some p10 ∧ Ieee.double.mul b p10 = some m ∧ Ieee.double.add z m = some c
/-- The series' divisors. -/
def DD (k : Nat) : Nat := ([4611686018427387904, 4622945017495814144, 4629137466983448576, 4633078116657397760, 4636033603912859648, 4638848353679966208, 4640607572284407808, 4642648265865560064, 4644090825121202176, 4645392646888488960, 4646835206144131072, 4648066659167240192, 4648928676283416576, 4649861062143770624] : List Nat).getD k 0
/-- The law's series at x gives s. -/
def TayCh (x s : Nat) : Prop := ∃ (xx nx : Nat) (T S M : Nat → Nat), T 0 = 4607182418800017408 ∧ S 0 = 4607182418800017408 ∧ S 14 = s ∧ Ieee.double.mul x x = some xx ∧ Ieee.double.sub 0 xx = some nx ∧ ∀ k, k < 14 → Ieee.double.mul (T k) nx = some (M k) ∧ Ieee.double.div (M k) (DD k) = some (T (k + 1)) ∧ Ieee.double.add (S k) (T (k + 1)) = some (S (k + 1))
def tayL : List Rat := [1, (-1 / 2 : Rat), (1 / 24 : Rat), (-1 / 720 : Rat), (1 / 40320 : Rat), (-1 / 3628800 : Rat), (1 / 479001600 : Rat), (-1 / 87178291200 : Rat), (1 / 20922789888000 : Rat), (-1 / 6402373705728000 : Rat), (1 / 2432902008176640000 : Rat), (-1 / 1124000727777607680000 : Rat), (1 / 620448401733239439360000 : Rat), (-1 / 403291461126605635584000000 : Rat), (1 / 304888344611713860501504000000 : Rat)]
set_option maxRecDepth 100000 in
theorem cosWide {z : Nat} (iz : In 13974669643730649088 4751297606875873280 z) : ∃ c, CosCh z c ∧ In 15684060896450452129 6460688859595676321 c := by
  obtain ⟨zz, h_zz, i_zz⟩ := mul_in iz iz (lz := 14118784831806504960) (hz := 4895412794951729152) (by decide +kernel)
  obtain ⟨a1, h_a1, i_a1⟩ := mul_in (In.self (x := 4602678819172646912) (finB_fin (by decide))) i_zz (lz := 14114281232179134464) (hz := 4890909195324358656) (by decide +kernel)
  obtain ⟨a2, h_a2, i_a2⟩ := sub_in (In.self (x := 4607182418800017408) (finB_fin (by decide))) i_a1 (lz := 14114281232179134464) (hz := 4890909195324358657) (by decide +kernel)
  obtain ⟨b, h_b, i_b⟩ := mul_in i_zz i_zz (lz := 14407015207958216704) (hz := 5183643171103440896) (by decide +kernel)
  obtain ⟨p1, h_p1, i_p1⟩ := mul_in (In.self (x := 13666448263388469915) (finB_fin (by decide))) i_zz (lz := 13954678639540181659) (hz := 4731306602685405851) (by decide +kernel)
  obtain ⟨p2, h_p2, i_p2⟩ := add_in i_p1 (In.self (x := 4477121864728985349) (finB_fin (by decide))) (lz := 13954678639540181659) (hz := 4731306602685405852) (by decide +kernel)
  obtain ⟨p3, h_p3, i_p3⟩ := mul_in i_p2 i_zz (lz := 14242909015691893404) (hz := 5019536978837117596) (by decide +kernel)
  obtain ⟨p4, h_p4, i_p4⟩ := add_in i_p3 (In.self (x := 13732177093698800582) (finB_fin (by decide))) (lz := 14242909015691893405) (hz := 5019536978837117596) (by decide +kernel)
  obtain ⟨p5, h_p5, i_p5⟩ := mul_in i_p4 i_zz (lz := 14531139391843605149) (hz := 5307767354988829341) (by decide +kernel)
  obtain ⟨p6, h_p6, i_p6⟩ := add_in i_p5 (In.self (x := 4537941361668146421) (finB_fin (by decide))) (lz := 14531139391843605149) (hz := 5307767354988829342) (by decide +kernel)
  obtain ⟨p7, h_p7, i_p7⟩ := mul_in i_p6 i_zz (lz := 14819369767995316894) (hz := 5595997731140541086) (by decide +kernel)
  obtain ⟨p8, h_p8, i_p8⟩ := add_in i_p7 (In.self (x := 13787419979223748497) (finB_fin (by decide))) (lz := 14819369767995316895) (hz := 5595997731140541086) (by decide +kernel)
  obtain ⟨p9, h_p9, i_p9⟩ := mul_in i_p8 i_zz (lz := 15107600144147028639) (hz := 5884228107292252831) (by decide +kernel)
  obtain ⟨p10, h_p10, i_p10⟩ := add_in i_p9 (In.self (x := 4586165620538955083) (finB_fin (by decide))) (lz := 15107600144147028639) (hz := 5884228107292252832) (by decide +kernel)
  obtain ⟨m, h_m, i_m⟩ := mul_in i_b i_p10 (lz := 15684060896450452128) (hz := 6460688859595676320) (by decide +kernel)
  obtain ⟨c, h_c, i_c⟩ := add_in i_a2 i_m (lz := 15684060896450452129) (hz := 6460688859595676321) (by decide +kernel)
  exact ⟨c, ⟨zz, a1, a2, b, p1, p2, p3, p4, p5, p6, p7, p8, p9, p10, m, h_zz, h_a1, h_a2, h_b, h_p1, h_p2, h_p3, h_p4, h_p5, h_p6, h_p7, h_p8, h_p9, h_p10, h_m, h_c⟩, i_c⟩
set_option maxRecDepth 100000 in
theorem sinWide {z : Nat} (iz : In 13974669643730649088 4751297606875873280 z) : ∃ c, SinCh z c ∧ In 15557079069493402835 6333707032638627027 c := by
  obtain ⟨zz, h_zz, i_zz⟩ := mul_in iz iz (lz := 14118784831806504960) (hz := 4895412794951729152) (by decide +kernel)
  obtain ⟨b, h_b, i_b⟩ := mul_in iz i_zz (lz := 14262900019882360832) (hz := 5039527983027585024) (by decide +kernel)
  obtain ⟨p1, h_p1, i_p1⟩ := mul_in (In.self (x := 4460209587652500685) (finB_fin (by decide))) i_zz (lz := 13971812000658988237) (hz := 4748439963804212429) (by decide +kernel)
  obtain ⟨p2, h_p2, i_p2⟩ := add_in i_p1 (In.self (x := 13716528389658582877) (finB_fin (by decide))) (lz := 13971812000658988238) (hz := 4748439963804212429) (by decide +kernel)
  obtain ⟨p3, h_p3, i_p3⟩ := mul_in i_p2 i_zz (lz := 14260042376810699982) (hz := 5036670339955924174) (by decide +kernel)
  obtain ⟨p4, h_p4, i_p4⟩ := add_in i_p3 (In.self (x := 4523617212962785441) (finB_fin (by decide))) (lz := 14260042376810699982) (hz := 5036670339955924175) (by decide +kernel)
  obtain ⟨p5, h_p5, i_p5⟩ := mul_in i_p4 i_zz (lz := 14548272752962411727) (hz := 5324900716107635919) (by decide +kernel)
  obtain ⟨p6, h_p6, i_p6⟩ := add_in i_p5 (In.self (x := 13774824197404483331) (finB_fin (by decide))) (lz := 14548272752962411728) (hz := 5324900716107635919) (by decide +kernel)
  obtain ⟨p7, h_p7, i_p7⟩ := mul_in i_p6 i_zz (lz := 14836503129114123472) (hz := 5613131092259347664) (by decide +kernel)
  obtain ⟨p8, h_p8, i_p8⟩ := add_in i_p7 (In.self (x := 4575957461383575504) (finB_fin (by decide))) (lz := 14836503129114123472) (hz := 5613131092259347665) (by decide +kernel)
  obtain ⟨p9, h_p9, i_p9⟩ := mul_in i_p8 i_zz (lz := 15124733505265835217) (hz := 5901361468411059409) (by decide +kernel)
  obtain ⟨p10, h_p10, i_p10⟩ := add_in i_p9 (In.self (x := 13818544856648471880) (finB_fin (by decide))) (lz := 15124733505265835218) (hz := 5901361468411059409) (by decide +kernel)
  obtain ⟨m, h_m, i_m⟩ := mul_in i_b i_p10 (lz := 15557079069493402834) (hz := 6333707032638627026) (by decide +kernel)
  obtain ⟨c, h_c, i_c⟩ := add_in iz i_m (lz := 15557079069493402835) (hz := 6333707032638627027) (by decide +kernel)
  exact ⟨c, ⟨zz, b, p1, p2, p3, p4, p5, p6, p7, p8, p9, p10, m, h_zz, h_b, h_p1, h_p2, h_p3, h_p4, h_p5, h_p6, h_p7, h_p8, h_p9, h_p10, h_m, h_c⟩, i_c⟩
set_option maxRecDepth 100000 in
theorem cosI {z : Nat} {q : Rat} (vz : Va 0 4605249457297304856 0 q z) : ∃ c, CosCh z c ∧ Va 4604404372131077393 4607253820418846059 (91032009 / 302231454903657293676544 : Rat) (1 - 1 / 2 * (q * q) + q * q * (q * q) * (((((val 13666448263388469915 * (q * q) + val 4477121864728985349) * (q * q) + val 13732177093698800582) * (q * q) + val 4537941361668146421) * (q * q) + val 13787419979223748497) * (q * q) + val 4586165620538955083)) c := by
  obtain ⟨zz, h_zz, v_zz⟩ := va_mul vz vz (lz := 0) (hz := 4603731312883156446) (g := (20698061 / 302231454903657293676544 : Rat)) (by decide +kernel)
  obtain ⟨a1, h_a1, v_a1⟩ := va_mul (Va.self (x := 4602678819172646912) (finB_fin (by decide))) v_zz (lz := 0) (hz := 4599227713255785950) (g := (20698061 / 302231454903657293676544 : Rat)) (by decide +kernel)
  obtain ⟨a2, h_a2, v_a2⟩ := va_sub (Va.self (x := 4607182418800017408) (finB_fin (by decide))) v_a1 (lz := 4604404372131077393) (hz := 4607182418800017408) (g := (27126247 / 151115727451828646838272 : Rat)) (by decide +kernel)
  obtain ⟨b, h_b, v_b⟩ := va_mul v_zz v_zz (lz := 0) (hz := 4600526175325456421) (g := (19151407 / 151115727451828646838272 : Rat)) (by decide +kernel)
  obtain ⟨p1, h_p1, v_p1⟩ := va_mul (Va.self (x := 13666448263388469915) (finB_fin (by decide))) v_zz (lz := 13663587717347069911) (hz := 0) (g := (1 / 302231454903657293676544 : Rat)) (by decide +kernel)
  obtain ⟨p2, h_p2, v_p2⟩ := va_add v_p1 (Va.self (x := 4477121864728985349) (finB_fin (by decide))) (lz := 4477104924011876509) (hz := 4477121864728985349) (g := (1 / 151115727451828646838272 : Rat)) (by decide +kernel)
  obtain ⟨p3, h_p3, v_p3⟩ := va_mul v_p2 v_zz (lz := 0) (hz := 4473797853379485629) (g := (1 / 151115727451828646838272 : Rat)) (by decide +kernel)
  obtain ⟨p4, h_p4, v_p4⟩ := va_add v_p3 (Va.self (x := 13732177093698800582) (finB_fin (by decide))) (lz := 13732177093698800582) (hz := 13732152769390097638) (g := (3 / 75557863725914323419136 : Rat)) (by decide +kernel)
  obtain ⟨p5, h_p5, v_p5⟩ := va_mul v_p4 v_zz (lz := 13728890005803088793) (hz := 0) (g := (19 / 302231454903657293676544 : Rat)) (by decide +kernel)
  obtain ⟨p6, h_p6, v_p6⟩ := va_add v_p5 (Va.self (x := 4537941361668146421) (finB_fin (by decide))) (lz := 4537891190252480893) (hz := 4537941361668146421) (g := (213 / 75557863725914323419136 : Rat)) (by decide +kernel)
  obtain ⟨p7, h_p7, v_p7⟩ := va_mul v_p6 v_zz (lz := 0) (hz := 4535136653368899633) (g := (1553 / 302231454903657293676544 : Rat)) (by decide +kernel)
  obtain ⟨p8, h_p8, v_p8⟩ := va_add v_p7 (Va.self (x := 13787419979223748497) (finB_fin (by decide))) (lz := 13787419979223748497) (hz := 13787349425657589424) (g := (48157 / 302231454903657293676544 : Rat)) (by decide +kernel)
  obtain ⟨p9, h_p9, v_p9⟩ := va_mul v_p8 v_zz (lz := 13784413259540212077) (hz := 0) (g := (87201 / 302231454903657293676544 : Rat)) (by decide +kernel)
  obtain ⟨p10, h_p10, v_p10⟩ := va_add v_p9 (Va.self (x := 4586165620538955083) (finB_fin (by decide))) (lz := 4586042151798113445) (hz := 4586165620538955083) (g := (1485303 / 302231454903657293676544 : Rat)) (by decide +kernel)
  obtain ⟨m, h_m, v_m⟩ := va_mul v_b v_p10 (lz := 0) (hz := 4580226925013457596) (g := (2693099 / 302231454903657293676544 : Rat)) (by decide +kernel)
  obtain ⟨c, h_c, v_c⟩ := va_add v_a2 v_m (lz := 4604404372131077393) (hz := 4607253820418846059) (g := (91032009 / 302231454903657293676544 : Rat)) (by decide +kernel)
  exact ⟨c, ⟨zz, a1, a2, b, p1, p2, p3, p4, p5, p6, p7, p8, p9, p10, m, h_zz, h_a1, h_a2, h_b, h_p1, h_p2, h_p3, h_p4, h_p5, h_p6, h_p7, h_p8, h_p9, h_p10, h_m, h_c⟩, v_c.at (by rw [v_half, v_one])⟩
set_option maxRecDepth 100000 in
theorem tayI {x : Nat} {q : Rat} (vx : Va 0 4605249457297304856 0 q x) : ∃ s, TayCh x s ∧ Va 4604401435635513384 4607253836591161814 (41250357 / 37778931862957161709568 : Rat) (ev tayL (q * q)) s := by
  have vone : Va 4607182418800017408 4607182418800017408 0 1 4607182418800017408 := (Va.self (x := 4607182418800017408) (finB_fin (by decide))).at v_one
  obtain ⟨xx, h_xx, v_xx⟩ := va_mul vx vx (lz := 0) (hz := 4603731312883156446) (g := (20698061 / 302231454903657293676544 : Rat)) (by decide +kernel)
  obtain ⟨u, hu⟩ : ∃ u : Rat, u = q * q := ⟨_, rfl⟩
  replace v_xx := v_xx.at hu.symm
  obtain ⟨nx, h_nx, v_nx⟩ := va_sub (Va.self (x := 0) (finB_fin (by decide))) v_xx (lz := 13827103349737932254) (hz := 0) (g := (20698061 / 151115727451828646838272 : Rat)) (by decide +kernel)
  replace v_nx := v_nx.at (q' := -u) (by rw [v_zero]; grind)
  obtain ⟨m1, h_m1, v_m1⟩ := va_mul (vone) v_nx (lz := 13827103349737932254) (hz := 0) (g := (62094183 / 302231454903657293676544 : Rat)) (by decide +kernel)
  obtain ⟨t1, h_t1, v_t1⟩ := va_div v_m1 (y := 4611686018427387904) (finB_fin (by decide)) (lz := 13822599750110561758) (hz := 0) (g := (51745153 / 302231454903657293676544 : Rat)) (by decide +kernel)
  replace v_t1 := v_t1.at (q' := (-1 / 2 : Rat) * u ^ 1) (by rw [show val 4611686018427387904 = 2 by decide +kernel]; grind)
  obtain ⟨s1, h_s1, v_s1⟩ := va_add (vone) v_t1 (lz := 4604404372131077393) (hz := 4607182418800017408) (g := (42649793 / 151115727451828646838272 : Rat)) (by decide +kernel)
  obtain ⟨m2, h_m2, v_m2⟩ := va_mul v_t1 v_nx (lz := 0) (hz := 4596022575698085925) (g := (51070419 / 302231454903657293676544 : Rat)) (by decide +kernel)
  obtain ⟨t2, h_t2, v_t2⟩ := va_div v_m2 (y := 4622945017495814144) (finB_fin (by decide)) (lz := 0) (hz := 4580226925013457604) (g := (1329959 / 75557863725914323419136 : Rat)) (by decide +kernel)
  replace v_t2 := v_t2.at (q' := (1 / 24 : Rat) * u ^ 2) (by rw [show val 4622945017495814144 = 12 by decide +kernel]; grind)
  obtain ⟨s2, h_s2, v_s2⟩ := va_add v_s1 v_t2 (lz := 4604404372131077393) (hz := 4607253820418846060) (g := (62352919 / 151115727451828646838272 : Rat)) (by decide +kernel)
  obtain ⟨m3, h_m3, v_m3⟩ := va_mul v_t2 v_nx (lz := 13800163304487318523) (hz := 0) (g := (4266005 / 302231454903657293676544 : Rat)) (by decide +kernel)
  obtain ⟨t3, h_t3, v_t3⟩ := va_div v_m3 (y := 4629137466983448576) (finB_fin (by decide)) (lz := 13778021149407231995) (hz := 0) (g := (82039 / 151115727451828646838272 : Rat)) (by decide +kernel)
  replace v_t3 := v_t3.at (q' := (-1 / 720 : Rat) * u ^ 3) (by rw [show val 4629137466983448576 = 30 by decide +kernel]; grind)
  obtain ⟨s3, h_s3, v_s3⟩ := va_add v_s2 v_t3 (lz := 4604401435857196409) (hz := 4607253820418846060) (g := (39739083 / 75557863725914323419136 : Rat)) (by decide +kernel)
  obtain ⟨m4, h_m4, v_m4⟩ := va_mul v_t3 v_nx (lz := 0) (hz := 4551550868591182693) (g := (60727 / 151115727451828646838272 : Rat)) (by decide +kernel)
  obtain ⟨t4, h_t4, v_t4⟩ := va_div v_m4 (y := 4633078116657397760) (finB_fin (by decide)) (lz := 0) (hz := 4525589105766152893) (g := (1205 / 151115727451828646838272 : Rat)) (by decide +kernel)
  replace v_t4 := v_t4.at (q' := (1 / 40320 : Rat) * u ^ 4) (by rw [show val 4633078116657397760 = 56 by decide +kernel]; grind)
  obtain ⟨s4, h_s4, v_s4⟩ := va_add v_s3 v_t4 (lz := 4604401435857196409) (hz := 4607253836590643839) (g := (193045279 / 302231454903657293676544 : Rat)) (by decide +kernel)
  obtain ⟨m5, h_m5, v_m5⟩ := va_mul v_t4 v_nx (lz := 13745712538897527916) (hz := 0) (g := (855 / 151115727451828646838272 : Rat)) (by decide +kernel)
  obtain ⟨t5, h_t5, v_t5⟩ := va_div v_m5 (y := 4636033603912859648) (finB_fin (by decide)) (lz := 13716395595728439951) (hz := 0) (g := (21 / 302231454903657293676544 : Rat)) (by decide +kernel)
  replace v_t5 := v_t5.at (q' := (-1 / 3628800 : Rat) * u ^ 5) (by rw [show val 4636033603912859648 = 90 by decide +kernel]; grind)
  obtain ⟨s5, h_s5, v_s5⟩ := va_add v_s4 v_t5 (lz := 4604401435635516899) (hz := 4607253836590643839) (g := (227131837 / 302231454903657293676544 : Rat)) (by decide +kernel)
  obtain ⟨m6, h_m6, v_m6⟩ := va_mul v_t5 v_nx (lz := 0) (hz := 4490173564775364439) (g := (15 / 302231454903657293676544 : Rat)) (by decide +kernel)
  obtain ⟨t6, h_t6, v_t6⟩ := va_div v_m6 (y := 4638848353679966208) (finB_fin (by decide)) (lz := 0) (hz := 4458455022706244808) (g := (1 / 302231454903657293676544 : Rat)) (by decide +kernel)
  replace v_t6 := v_t6.at (q' := (1 / 479001600 : Rat) * u ^ 6) (by rw [show val 4638848353679966208 = 132 by decide +kernel]; grind)
  obtain ⟨s6, h_s6, v_s6⟩ := va_add v_s5 v_t6 (lz := 4604401435635516899) (hz := 4607253836591161806) (g := (261218375 / 302231454903657293676544 : Rat)) (by decide +kernel)
  obtain ⟨m7, h_m7, v_m7⟩ := va_mul v_t6 v_nx (lz := 13678417566919122741) (hz := 0) (g := (1 / 302231454903657293676544 : Rat)) (by decide +kernel)
  obtain ⟨t7, h_t7, v_t7⟩ := va_div v_m7 (y := 4640607572284407808) (finB_fin (by decide)) (lz := 13644620601045488276) (hz := 0) (g := (1 / 302231454903657293676544 : Rat)) (by decide +kernel)
  replace v_t7 := v_t7.at (q' := (-1 / 87178291200 : Rat) * u ^ 7) (by rw [show val 4640607572284407808 = 182 by decide +kernel]; grind)
  obtain ⟨s7, h_s7, v_s7⟩ := va_add v_s6 v_t7 (lz := 4604401435635513387) (hz := 4607253836591161806) (g := (295304913 / 302231454903657293676544 : Rat)) (by decide +kernel)
  obtain ⟨m8, h_m8, v_m8⟩ := va_mul v_t7 v_nx (lz := 0) (hz := 4418290292227287673) (g := (1 / 302231454903657293676544 : Rat)) (by decide +kernel)
  obtain ⟨t8, h_t8, v_t8⟩ := va_div v_m8 (y := 4642648265865560064) (finB_fin (by decide)) (lz := 0) (hz := 4382579005701937145) (g := (1 / 302231454903657293676544 : Rat)) (by decide +kernel)
  replace v_t8 := v_t8.at (q' := (1 / 20922789888000 : Rat) * u ^ 8) (by rw [show val 4642648265865560064 = 240 by decide +kernel]; grind)
  obtain ⟨s8, h_s8, v_s8⟩ := va_add v_s7 v_t8 (lz := 4604401435635513387) (hz := 4607253836591161811) (g := (329391451 / 302231454903657293676544 : Rat)) (by decide +kernel)
  obtain ⟨m9, h_m9, v_m9⟩ := va_mul v_t8 v_nx (lz := 13602634680961845940) (hz := 0) (g := (1 / 302231454903657293676544 : Rat)) (by decide +kernel)
  obtain ⟨t9, h_t9, v_t9⟩ := va_div v_m9 (y := 4644090825121202176) (finB_fin (by decide)) (lz := 13565581798006555418) (hz := 0) (g := (1 / 302231454903657293676544 : Rat)) (by decide +kernel)
  replace v_t9 := v_t9.at (q' := (-1 / 6402373705728000 : Rat) * u ^ 9) (by rw [show val 4644090825121202176 = 306 by decide +kernel]; grind)
  obtain ⟨s9, h_s9, v_s9⟩ := va_addS v_s8 v_t9 (lz := 4604401435635513386) (hz := 4607253836591161811) (g := (330001855 / 302231454903657293676544 : Rat)) (by decide +kernel)
  obtain ⟨m10, h_m10, v_m10⟩ := va_mul v_t9 v_nx (lz := 0) (hz := 4338931528291545014) (g := (1 / 302231454903657293676544 : Rat)) (by decide +kernel)
  obtain ⟨t10, h_t10, v_t10⟩ := va_div v_m10 (y := 4645392646888488960) (finB_fin (by decide)) (lz := 0) (hz := 4300646149151707597) (g := (1 / 302231454903657293676544 : Rat)) (by decide +kernel)
  replace v_t10 := v_t10.at (q' := (1 / 2432902008176640000 : Rat) * u ^ 10) (by rw [show val 4645392646888488960 = 380 by decide +kernel]; grind)
  obtain ⟨s10, h_s10, v_s10⟩ := va_addS v_s9 v_t10 (lz := 4604401435635513386) (hz := 4607253836591161812) (g := (330002847 / 302231454903657293676544 : Rat)) (by decide +kernel)
  obtain ⟨m11, h_m11, v_m11⟩ := va_mul v_t10 v_nx (lz := 13520678766313755003) (hz := 0) (g := (1 / 302231454903657293676544 : Rat)) (by decide +kernel)
  obtain ⟨t11, h_t11, v_t11⟩ := va_div v_m11 (y := 4646835206144131072) (finB_fin (by decide)) (lz := 13480728218647387694) (hz := 0) (g := (1 / 302231454903657293676544 : Rat)) (by decide +kernel)
  replace v_t11 := v_t11.at (q' := (-1 / 1124000727777607680000 : Rat) * u ^ 11) (by rw [show val 4646835206144131072 = 462 by decide +kernel]; grind)
  obtain ⟨s11, h_s11, v_s11⟩ := va_addS v_s10 v_t11 (lz := 4604401435635513385) (hz := 4607253836591161812) (g := (165001425 / 151115727451828646838272 : Rat)) (by decide +kernel)
  obtain ⟨m12, h_m12, v_m12⟩ := va_mul v_t11 v_nx (lz := 0) (hz := 4254245001254797801) (g := (1 / 302231454903657293676544 : Rat)) (by decide +kernel)
  obtain ⟨t12, h_t12, v_t12⟩ := va_div v_m12 (y := 4648066659167240192) (finB_fin (by decide)) (lz := 0) (hz := 4213179955866114057) (g := (1 / 302231454903657293676544 : Rat)) (by decide +kernel)
  replace v_t12 := v_t12.at (q' := (1 / 620448401733239439360000 : Rat) * u ^ 12) (by rw [show val 4648066659167240192 = 552 by decide +kernel]; grind)
  obtain ⟨s12, h_s12, v_s12⟩ := va_addS v_s11 v_t12 (lz := 4604401435635513385) (hz := 4607253836591161813) (g := (82500713 / 75557863725914323419136 : Rat)) (by decide +kernel)
  obtain ⟨m13, h_m13, v_m13⟩ := va_mul v_t12 v_nx (lz := 13433641740986208852) (hz := 0) (g := (1 / 302231454903657293676544 : Rat)) (by decide +kernel)
  obtain ⟨t13, h_t13, v_t13⟩ := va_div v_m13 (y := 4648928676283416576) (finB_fin (by decide)) (lz := 13391323570881909899) (hz := 0) (g := (1 / 302231454903657293676544 : Rat)) (by decide +kernel)
  replace v_t13 := v_t13.at (q' := (-1 / 403291461126605635584000000 : Rat) * u ^ 13) (by rw [show val 4648928676283416576 = 650 by decide +kernel]; grind)
  obtain ⟨s13, h_s13, v_s13⟩ := va_addS v_s12 v_t13 (lz := 4604401435635513384) (hz := 4607253836591161813) (g := (165001427 / 151115727451828646838272 : Rat)) (by decide +kernel)
  obtain ⟨m14, h_m14, v_m14⟩ := va_mul v_t13 v_nx (lz := 0) (hz := 4164996312331988046) (g := (1 / 302231454903657293676544 : Rat)) (by decide +kernel)
  obtain ⟨t14, h_t14, v_t14⟩ := va_div v_m14 (y := 4649861062143770624) (finB_fin (by decide)) (lz := 0) (hz := 4121825792762848109) (g := (1 / 302231454903657293676544 : Rat)) (by decide +kernel)
  replace v_t14 := v_t14.at (q' := (1 / 304888344611713860501504000000 : Rat) * u ^ 14) (by rw [show val 4649861062143770624 = 756 by decide +kernel]; grind)
  obtain ⟨s14, h_s14, v_s14⟩ := va_addS v_s13 v_t14 (lz := 4604401435635513384) (hz := 4607253836591161814) (g := (41250357 / 37778931862957161709568 : Rat)) (by decide +kernel)
  refine ⟨s14, ⟨xx, nx, fun k => ([4607182418800017408, t1, t2, t3, t4, t5, t6, t7, t8, t9, t10, t11, t12, t13, t14] : List Nat).getD k 0, fun k => ([4607182418800017408, s1, s2, s3, s4, s5, s6, s7, s8, s9, s10, s11, s12, s13, s14] : List Nat).getD k 0, fun k => ([m1, m2, m3, m4, m5, m6, m7, m8, m9, m10, m11, m12, m13, m14] : List Nat).getD k 0, rfl, rfl, rfl, h_xx, h_nx, fun k hk => ?_⟩, v_s14.at ?_⟩
  · have : k = 0 ∨ k = 1 ∨ k = 2 ∨ k = 3 ∨ k = 4 ∨ k = 5 ∨ k = 6 ∨ k = 7 ∨ k = 8 ∨ k = 9 ∨ k = 10 ∨ k = 11 ∨ k = 12 ∨ k = 13 := by omega
    rcases this with rfl | rfl | rfl | rfl | rfl | rfl | rfl | rfl | rfl | rfl | rfl | rfl | rfl | rfl
    · exact ⟨h_m1, h_t1, h_s1⟩
    · exact ⟨h_m2, h_t2, h_s2⟩
    · exact ⟨h_m3, h_t3, h_s3⟩
    · exact ⟨h_m4, h_t4, h_s4⟩
    · exact ⟨h_m5, h_t5, h_s5⟩
    · exact ⟨h_m6, h_t6, h_s6⟩
    · exact ⟨h_m7, h_t7, h_s7⟩
    · exact ⟨h_m8, h_t8, h_s8⟩
    · exact ⟨h_m9, h_t9, h_s9⟩
    · exact ⟨h_m10, h_t10, h_s10⟩
    · exact ⟨h_m11, h_t11, h_s11⟩
    · exact ⟨h_m12, h_t12, h_s12⟩
    · exact ⟨h_m13, h_t13, h_s13⟩
    · exact ⟨h_m14, h_t14, h_s14⟩
  · rw [← hu]; unfold tayL; simp only [ev]; grind
set_option maxRecDepth 100000 in
theorem cosTiny {z : Nat} (iz : In 0 4485585228861014016 z) (one_near : ∀ {q : Rat} {r : Nat}, Near q r → 1 - 1 / 36028797018963968 ≤ q → q ≤ 1 + 1 / 36028797018963968 → ky r = 4607182418800017408) : ∃ c, CosCh z c ∧ ¬ nan c ∧ ky c = 4607182418800017408 := by
  obtain ⟨zz, h_zz, i_zz⟩ := mul_in iz iz (lz := 0) (hz := 4363988038922010624) (by decide +kernel)
  obtain ⟨a1, h_a1, i_a1⟩ := mul_in (In.self (x := 4602678819172646912) (finB_fin (by decide))) i_zz (lz := 0) (hz := 4359484439294640128) (by decide +kernel)
  obtain ⟨a2, h_a2, i_a2⟩ := sub_in (In.self (x := 4607182418800017408) (finB_fin (by decide))) i_a1 (lz := 4607182418800017407) (hz := 4607182418800017408) (by decide +kernel)
  obtain ⟨b, h_b, i_b⟩ := mul_in i_zz i_zz (lz := 0) (hz := 4120793659044003840) (by decide +kernel)
  obtain ⟨p1, h_p1, i_p1⟩ := mul_in (In.self (x := 13666448263388469915) (finB_fin (by decide))) i_zz (lz := 13423253883510463131) (hz := 0) (by decide +kernel)
  obtain ⟨p2, h_p2, i_p2⟩ := add_in i_p1 (In.self (x := 4477121864728985349) (finB_fin (by decide))) (lz := 4477121864728985348) (hz := 4477121864728985349) (by decide +kernel)
  obtain ⟨p3, h_p3, i_p3⟩ := mul_in i_p2 i_zz (lz := 0) (hz := 4233927484850978565) (by decide +kernel)
  obtain ⟨p4, h_p4, i_p4⟩ := add_in i_p3 (In.self (x := 13732177093698800582) (finB_fin (by decide))) (lz := 13732177093698800582) (hz := 13732177093698800581) (by decide +kernel)
  obtain ⟨p5, h_p5, i_p5⟩ := mul_in i_p4 i_zz (lz := 13488982713820793798) (hz := 0) (by decide +kernel)
  obtain ⟨p6, h_p6, i_p6⟩ := add_in i_p5 (In.self (x := 4537941361668146421) (finB_fin (by decide))) (lz := 4537941361668146420) (hz := 4537941361668146421) (by decide +kernel)
  obtain ⟨p7, h_p7, i_p7⟩ := mul_in i_p6 i_zz (lz := 0) (hz := 4294746981790139637) (by decide +kernel)
  obtain ⟨p8, h_p8, i_p8⟩ := add_in i_p7 (In.self (x := 13787419979223748497) (finB_fin (by decide))) (lz := 13787419979223748497) (hz := 13787419979223748496) (by decide +kernel)
  obtain ⟨p9, h_p9, i_p9⟩ := mul_in i_p8 i_zz (lz := 13544225599345741713) (hz := 0) (by decide +kernel)
  obtain ⟨p10, h_p10, i_p10⟩ := add_in i_p9 (In.self (x := 4586165620538955083) (finB_fin (by decide))) (lz := 4586165620538955082) (hz := 4586165620538955083) (by decide +kernel)
  obtain ⟨m, h_m, i_m⟩ := mul_in i_b i_p10 (lz := 0) (hz := 4099776860782941515) (by decide +kernel)
  obtain ⟨c, h_c, i_c⟩ := add_in i_a2 i_m (lz := 4607182418800017407) (hz := 4607182418800017409) (by decide +kernel)
  refine ⟨c, ⟨zz, a1, a2, b, p1, p2, p3, p4, p5, p6, p7, p8, p9, p10, m, h_zz, h_a1, h_a2, h_b, h_p1, h_p2, h_p3, h_p4, h_p5, h_p6, h_p7, h_p8, h_p9, h_p10, h_m, h_c⟩, (add_near i_a2 i_m h_c).nn, ?_⟩
  have w1 := i_a1.vlo
  have w2 := i_a1.vhi
  rw [v_zero] at w1
  have n2 := one_near (sub_near (In.self (x := 4607182418800017408) (finB_fin (by decide))) i_a1 h_a2) (by
    have : val 4359484439294640128 ≤ 1 / 36028797018963968 := by decide +kernel
    rw [v_one]; grind) (by rw [v_one]; grind)
  have v2 : val a2 = 1 := by
    have := val_eq_iff.2 (n2.trans (show (4607182418800017408 : Int) = ky 4607182418800017408 by decide))
    rwa [v_one] at this
  have x1 := i_m.vlo
  have x2 := i_m.vhi
  exact one_near (add_near i_a2 i_m h_c) (by
    have : -(1 / 36028797018963968 : Rat) ≤ val 0 := by decide +kernel
    rw [v2]; grind) (by
    have : val 4099776860782941515 ≤ 1 / 36028797018963968 := by decide +kernel
    rw [v2]; grind)
theorem redII {x : Nat} {q : Rat} (vx : Va 4605249457297304856 4607182418800017408 0 q x) : ∃ z1 z2 z, Ieee.double.sub x 4609753056584663040 = some z1 ∧ Ieee.double.sub z1 4500296887714185216 = some z2 ∧ Ieee.double.sub z2 4393339057712419184 = some z ∧ Va 13828621494152080665 13826688532649368112 (79060767 / 302231454903657293676544 : Rat) (q - val 4609753056584663040 - val 4500296887714185216 - val 4393339057712419184) z := by
  obtain ⟨z1, h_z1, v_z1⟩ := va_sub vx (Va.self (x := 4609753056584663040) (finB_fin (by decide))) (lz := 13828621493472056040) (hz := 13826688531969343488) (g := (26353587 / 302231454903657293676544 : Rat)) (by decide +kernel)
  obtain ⟨z2, h_z2, v_z2⟩ := va_sub v_z1 (Va.self (x := 4500296887714185216) (finB_fin (by decide))) (lz := 13828621494152080616) (hz := 13826688532649368064) (g := (52707177 / 302231454903657293676544 : Rat)) (by decide +kernel)
  obtain ⟨z, h_z, v_z⟩ := va_sub v_z2 (Va.self (x := 4393339057712419184) (finB_fin (by decide))) (lz := 13828621494152080665) (hz := 13826688532649368112) (g := (79060767 / 302231454903657293676544 : Rat)) (by decide +kernel)
  exact ⟨z1, z2, z, h_z1, h_z2, h_z, v_z⟩
set_option maxRecDepth 100000 in
theorem sinII {z : Nat} {q : Rat} (vz : Va 13828621494152080665 13826688532649368112 (79060767 / 302231454903657293676544 : Rat) q z) : ∃ c, SinCh z c ∧ Va 13828350859957289560 13825894976737896773 (139819967 / 302231454903657293676544 : Rat) (q + q * (q * q) * (((((val 4460209587652500685 * (q * q) + val 13716528389658582877) * (q * q) + val 4523617212962785441) * (q * q) + val 13774824197404483331) * (q * q) + val 4575957461383575504) * (q * q) + val 13818544856648471880)) c ∧ c < 18446744073709551616 := by
  obtain ⟨zz, h_zz, v_zz⟩ := va_mul vz vz (lz := 4599540863114200623) (hz := 4603731312883156448) (g := (18110803 / 37778931862957161709568 : Rat)) (by decide +kernel)
  obtain ⟨b, h_b, v_b⟩ := va_mul vz v_zz (lz := 13825771147779153280) (hz := 13819240342060333141) (g := (89409203 / 151115727451828646838272 : Rat)) (by decide +kernel)
  obtain ⟨p1, h_p1, v_p1⟩ := va_mul (Va.self (x := 4460209587652500685) (finB_fin (by decide))) v_zz (lz := 4453067141605865108) (hz := 4457143142688209305) (g := (1 / 302231454903657293676544 : Rat)) (by decide +kernel)
  obtain ⟨p2, h_p2, v_p2⟩ := va_add v_p1 (Va.self (x := 13716528389658582877) (finB_fin (by decide))) (lz := 13716512736710553218) (hz := 13716498754069340067) (g := (1 / 151115727451828646838272 : Rat)) (by decide +kernel)
  obtain ⟨p3, h_p3, v_p3⟩ := va_mul v_p2 v_zz (lz := 13713617860077178563) (hz := 13709367827300708764) (g := (3 / 151115727451828646838272 : Rat)) (by decide +kernel)
  obtain ⟨p4, h_p4, v_p4⟩ := va_add v_p3 (Va.self (x := 4523617212962785441) (finB_fin (by decide))) (lz := 4523580802069337091) (hz := 4523598017020549936) (g := (99 / 302231454903657293676544 : Rat)) (by decide +kernel)
  obtain ⟨p5, h_p5, v_p5⟩ := va_mul v_p4 v_zz (lz := 4516535639375070432) (hz := 4520610570924705929) (g := (517 / 302231454903657293676544 : Rat)) (by decide +kernel)
  obtain ⟨p6, h_p6, v_p6⟩ := va_add v_p5 (Va.self (x := 13774824197404483331) (finB_fin (by decide))) (lz := 13774791258293634879) (hz := 13774761668152143729) (g := (7145 / 302231454903657293676544 : Rat)) (by decide +kernel)
  obtain ⟨p7, h_p7, v_p7⟩ := va_mul v_p6 v_zz (lz := 13771990680712743350) (hz := 13767729640753643472) (g := (18557 / 151115727451828646838272 : Rat)) (by decide +kernel)
  obtain ⟨p8, h_p8, v_p8⟩ := va_add v_p7 (Va.self (x := 4575957461383575504) (finB_fin (by decide))) (lz := 4575887225293977788) (hz := 4575920514668658257) (g := (39323 / 37778931862957161709568 : Rat)) (by decide +kernel)
  obtain ⟨p9, h_p9, v_p9⟩ := va_mul v_p8 v_zz (lz := 4568315414557340153) (hz := 4572530940531561204) (g := (781655 / 151115727451828646838272 : Rat)) (by decide +kernel)
  obtain ⟨p10, h_p10, v_p10⟩ := va_add v_p9 (Va.self (x := 13818544856648471880) (finB_fin (by decide))) (lz := 13818448466147987073) (hz := 13818361077949163184) (g := (7065945 / 302231454903657293676544 : Rat)) (by decide +kernel)
  obtain ⟨m, h_m, v_m⟩ := va_mul v_b v_p10 (lz := 4584317515641739302) (hz := 4590389350796831851) (g := (35413801 / 302231454903657293676544 : Rat)) (by decide +kernel)
  obtain ⟨c, h_c, v_c⟩ := va_add vz v_m (lz := 13828350859957289560) (hz := 13825894976737896773) (g := (139819967 / 302231454903657293676544 : Rat)) (by decide +kernel)
  exact ⟨c, ⟨zz, b, p1, p2, p3, p4, p5, p6, p7, p8, p9, p10, m, h_zz, h_b, h_p1, h_p2, h_p3, h_p4, h_p5, h_p6, h_p7, h_p8, h_p9, h_p10, h_m, h_c⟩, v_c, (add_near vz.toIn v_m.toIn h_c).lt⟩
set_option maxRecDepth 100000 in
theorem tayII {x : Nat} {q : Rat} (vx : Va 4605249457297304856 4607182418800017408 0 q x) : ∃ s, TayCh x s ∧ Va 4602809142273724816 4604776959016104138 (159334693 / 151115727451828646838272 : Rat) (ev tayL (q * q)) s := by
  have vone : Va 4607182418800017408 4607182418800017408 0 1 4607182418800017408 := (Va.self (x := 4607182418800017408) (finB_fin (by decide))).at v_one
  obtain ⟨xx, h_xx, v_xx⟩ := va_mul vx vx (lz := 4603731312883156445) (hz := 4607182418800017408) (g := (33554433 / 302231454903657293676544 : Rat)) (by decide +kernel)
  obtain ⟨u, hu⟩ : ∃ u : Rat, u = q * q := ⟨_, rfl⟩
  replace v_xx := v_xx.at hu.symm
  obtain ⟨nx, h_nx, v_nx⟩ := va_sub (Va.self (x := 0) (finB_fin (by decide))) v_xx (lz := 13830554455654793216) (hz := 13827103349737932253) (g := (33554433 / 151115727451828646838272 : Rat)) (by decide +kernel)
  replace v_nx := v_nx.at (q' := -u) (by rw [v_zero]; grind)
  obtain ⟨m1, h_m1, v_m1⟩ := va_mul (vone) v_nx (lz := 13830554455654793216) (hz := 13827103349737932253) (g := (100663299 / 302231454903657293676544 : Rat)) (by decide +kernel)
  obtain ⟨t1, h_t1, v_t1⟩ := va_div v_m1 (y := 4611686018427387904) (finB_fin (by decide)) (lz := 13826050856027422720) (hz := 13822599750110561757) (g := (41943041 / 151115727451828646838272 : Rat)) (by decide +kernel)
  replace v_t1 := v_t1.at (q' := (-1 / 2 : Rat) * u ^ 1) (by rw [show val 4611686018427387904 = 2 by decide +kernel]; grind)
  obtain ⟨s1, h_s1, v_s1⟩ := va_add (vone) v_t1 (lz := 4602678819172646912) (hz := 4604404372131077394) (g := (26772871 / 75557863725914323419136 : Rat)) (by decide +kernel)
  obtain ⟨m2, h_m2, v_m2⟩ := va_mul v_t1 v_nx (lz := 4596022575698085922) (hz := 4602678819172646912) (g := (33554433 / 75557863725914323419136 : Rat)) (by decide +kernel)
  obtain ⟨t2, h_t2, v_t2⟩ := va_div v_m2 (y := 4622945017495814144) (finB_fin (by decide)) (lz := 4580226925013457601) (hz := 4586165620538955094) (g := (6990507 / 151115727451828646838272 : Rat)) (by decide +kernel)
  replace v_t2 := v_t2.at (q' := (1 / 24 : Rat) * u ^ 2) (by rw [show val 4622945017495814144 = 12 by decide +kernel]; grind)
  obtain ⟨s2, h_s2, v_s2⟩ := va_add v_s1 v_t2 (lz := 4602821622410304214) (hz := 4604779672100024936) (g := (72838001 / 151115727451828646838272 : Rat)) (by decide +kernel)
  obtain ⟨m3, h_m3, v_m3⟩ := va_mul v_t2 v_nx (lz := 13809537657393730902) (hz := 13800163304487318517) (g := (18175319 / 302231454903657293676544 : Rat)) (by decide +kernel)
  obtain ⟨t3, h_t3, v_t3⟩ := va_div v_m3 (y := 4629137466983448576) (finB_fin (by decide)) (lz := 13787419979223755800) (hz := 13778021149407231988) (g := (699051 / 302231454903657293676544 : Rat)) (by decide +kernel)
  replace v_t3 := v_t3.at (q' := (-1 / 720 : Rat) * u ^ 3) (by rw [show val 4629137466983448576 = 30 by decide +kernel]; grind)
  obtain ⟨s3, h_s3, v_s3⟩ := va_add v_s2 v_t3 (lz := 4602809112411339295) (hz := 4604776735826143953) (g := (85483809 / 151115727451828646838272 : Rat)) (by decide +kernel)
  obtain ⟨m4, h_m4, v_m4⟩ := va_mul v_t3 v_nx (lz := 4551550868591182682) (hz := 4564047942368979992) (g := (419431 / 151115727451828646838272 : Rat)) (by decide +kernel)
  obtain ⟨t4, h_t4, v_t4⟩ := va_div v_m4 (y := 4633078116657397760) (finB_fin (by decide)) (lz := 4525589105766152880) (hz := 4537941361671905308) (g := (16645 / 302231454903657293676544 : Rat)) (by decide +kernel)
  replace v_t4 := v_t4.at (q' := (1 / 40320 : Rat) * u ^ 4) (by rw [show val 4633078116657397760 = 56 by decide +kernel]; grind)
  obtain ⟨s4, h_s4, v_s4⟩ := va_add v_s3 v_t4 (lz := 4602809144754934851) (hz := 4604776959218982613) (g := (48894415 / 75557863725914323419136 : Rat)) (by decide +kernel)
  obtain ⟨m5, h_m5, v_m5⟩ := va_mul v_t4 v_nx (lz := 13761313398526681116) (hz := 13745712538897527906) (g := (9571 / 151115727451828646838272 : Rat)) (by decide +kernel)
  obtain ⟨t5, h_t5, v_t5⟩ := va_div v_m5 (y := 4636033603912859648) (finB_fin (by decide)) (lz := 13732177094651715422) (hz := 13716395595728439936) (g := (29 / 37778931862957161709568 : Rat)) (by decide +kernel)
  replace v_t5 := v_t5.at (q' := (-1 / 3628800 : Rat) * u ^ 5) (by rw [show val 4636033603912859648 = 90 by decide +kernel]; grind)
  obtain ⟨s5, h_s5, v_s5⟩ := va_add v_s4 v_t5 (lz := 4602809142272792199) (hz := 4604776958997303104) (g := (27521411 / 37778931862957161709568 : Rat)) (by decide +kernel)
  obtain ⟨m6, h_m6, v_m6⟩ := va_mul v_t5 v_nx (lz := 4490173564775364428) (hz := 4508805057796939614) (g := (65 / 75557863725914323419136 : Rat)) (by decide +kernel)
  obtain ⟨t6, h_t6, v_t6⟩ := va_div v_m6 (y := 4638848353679966208) (finB_fin (by decide)) (lz := 4458455022706244786) (hz := 4477122120089393306) (g := (3 / 302231454903657293676544 : Rat)) (by decide +kernel)
  replace v_t6 := v_t6.at (q' := (1 / 479001600 : Rat) * u ^ 6) (by rw [show val 4638848353679966208 = 132 by decide +kernel]; grind)
  obtain ⟨s6, h_s6, v_s6⟩ := va_add v_s5 v_t6 (lz := 4602809142273828131) (hz := 4604776959016107215) (g := (15297793 / 18889465931478580854784 : Rat)) (by decide +kernel)
  obtain ⟨m7, h_m7, v_m7⟩ := va_mul v_t6 v_nx (lz := 13700494156944169114) (hz := 13678417566919122726) (g := (1 / 75557863725914323419136 : Rat)) (by decide +kernel)
  obtain ⟨t7, h_t7, v_t7⟩ := va_div v_m7 (y := 4640607572284407808) (finB_fin (by decide)) (lz := 13666517717442657441) (hz := 13644620601045488254) (g := (1 / 302231454903657293676544 : Rat)) (by decide +kernel)
  replace v_t7 := v_t7.at (q' := (-1 / 87178291200 : Rat) * u ^ 7) (by rw [show val 4640607572284407808 = 182 by decide +kernel]; grind)
  obtain ⟨s7, h_s7, v_s7⟩ := va_add v_s6 v_t7 (lz := 4602809142273724811) (hz := 4604776959016103704) (g := (134679043 / 151115727451828646838272 : Rat)) (by decide +kernel)
  obtain ⟨m8, h_m8, v_m8⟩ := va_mul v_t7 v_nx (lz := 4418290292227287657) (hz := 4443145680587881633) (g := (1 / 151115727451828646838272 : Rat)) (by decide +kernel)
  obtain ⟨t8, h_t8, v_t8⟩ := va_div v_m8 (y := 4642648265865560064) (finB_fin (by decide)) (lz := 4382579005701937127) (hz := 4407590220077447204) (g := (1 / 302231454903657293676544 : Rat)) (by decide +kernel)
  replace v_t8 := v_t8.at (q' := (1 / 20922789888000 : Rat) * u ^ 8) (by rw [show val 4642648265865560064 = 240 by decide +kernel]; grind)
  obtain ⟨s8, h_s8, v_s8⟩ := va_add v_s7 v_t8 (lz := 4602809142273724820) (hz := 4604776959016104135) (g := (73487871 / 75557863725914323419136 : Rat)) (by decide +kernel)
  obtain ⟨m9, h_m9, v_m9⟩ := va_mul v_t8 v_nx (lz := 13630962256932223012) (hz := 13602634680961845915) (g := (1 / 151115727451828646838272 : Rat)) (by decide +kernel)
  obtain ⟨t9, h_t9, v_t9⟩ := va_div v_m9 (y := 4644090825121202176) (finB_fin (by decide)) (lz := 13593695978845207964) (hz := 13565581798006555396) (g := (1 / 302231454903657293676544 : Rat)) (by decide +kernel)
  replace v_t9 := v_t9.at (q' := (-1 / 6402373705728000 : Rat) * u ^ 9) (by rw [show val 4644090825121202176 = 306 by decide +kernel]; grind)
  obtain ⟨s9, h_s9, v_s9⟩ := va_add v_s8 v_t9 (lz := 4602809142273724818) (hz := 4604776959016104135) (g := (159272441 / 151115727451828646838272 : Rat)) (by decide +kernel)
  obtain ⟨m10, h_m10, v_m10⟩ := va_mul v_t9 v_nx (lz := 4338931528291544985) (hz := 4370323941990432156) (g := (1 / 151115727451828646838272 : Rat)) (by decide +kernel)
  obtain ⟨t10, h_t10, v_t10⟩ := va_div v_m10 (y := 4645392646888488960) (finB_fin (by decide)) (lz := 4300646149151707557) (hz := 4331992437988917804) (g := (1 / 302231454903657293676544 : Rat)) (by decide +kernel)
  replace v_t10 := v_t10.at (q' := (1 / 2432902008176640000 : Rat) * u ^ 10) (by rw [show val 4645392646888488960 = 380 by decide +kernel]; grind)
  obtain ⟨s10, h_s10, v_s10⟩ := va_addS v_s9 v_t10 (lz := 4602809142273724818) (hz := 4604776959016104136) (g := (159334555 / 151115727451828646838272 : Rat)) (by decide +kernel)
  obtain ⟨m11, h_m11, v_m11⟩ := va_mul v_t10 v_nx (lz := 13555364474843693612) (hz := 13520678766313754976) (g := (1 / 151115727451828646838272 : Rat)) (by decide +kernel)
  obtain ⟨t11, h_t11, v_t11⟩ := va_div v_m11 (y := 4646835206144131072) (finB_fin (by decide)) (lz := 13515529227788089431) (hz := 13480728218647387663) (g := (1 / 302231454903657293676544 : Rat)) (by decide +kernel)
  replace v_t11 := v_t11.at (q' := (-1 / 1124000727777607680000 : Rat) * u ^ 11) (by rw [show val 4646835206144131072 = 462 by decide +kernel]; grind)
  obtain ⟨s11, h_s11, v_s11⟩ := va_addS v_s10 v_t11 (lz := 4602809142273724817) (hz := 4604776959016104136) (g := (79667345 / 75557863725914323419136 : Rat)) (by decide +kernel)
  obtain ⟨m12, h_m12, v_m12⟩ := va_mul v_t11 v_nx (lz := 4254245001254797760) (hz := 4292157190933313623) (g := (1 / 151115727451828646838272 : Rat)) (by decide +kernel)
  obtain ⟨t12, h_t12, v_t12⟩ := va_div v_m12 (y := 4648066659167240192) (finB_fin (by decide)) (lz := 4213179955866114018) (hz := 4251165982991775104) (g := (1 / 302231454903657293676544 : Rat)) (by decide +kernel)
  replace v_t12 := v_t12.at (q' := (1 / 620448401733239439360000 : Rat) * u ^ 12) (by rw [show val 4648066659167240192 = 552 by decide +kernel]; grind)
  obtain ⟨s12, h_s12, v_s12⟩ := va_addS v_s11 v_t12 (lz := 4602809142273724817) (hz := 4604776959016104137) (g := (159334691 / 151115727451828646838272 : Rat)) (by decide +kernel)
  obtain ⟨m13, h_m13, v_m13⟩ := va_mul v_t12 v_nx (lz := 13474538019846550912) (hz := 13433641740986208802) (g := (1 / 151115727451828646838272 : Rat)) (by decide +kernel)
  obtain ⟨t13, h_t13, v_t13⟩ := va_div v_m13 (y := 4648928676283416576) (finB_fin (by decide)) (lz := 13432142594749124193) (hz := 13391323570881909859) (g := (1 / 302231454903657293676544 : Rat)) (by decide +kernel)
  replace v_t13 := v_t13.at (q' := (-1 / 403291461126605635584000000 : Rat) * u ^ 13) (by rw [show val 4648928676283416576 = 650 by decide +kernel]; grind)
  obtain ⟨s13, h_s13, v_s13⟩ := va_addS v_s12 v_t13 (lz := 4602809142273724816) (hz := 4604776959016104137) (g := (39833673 / 37778931862957161709568 : Rat)) (by decide +kernel)
  obtain ⟨m14, h_m14, v_m14⟩ := va_mul v_t13 v_nx (lz := 4164996312331987994) (hz := 4208770557894348385) (g := (1 / 151115727451828646838272 : Rat)) (by decide +kernel)
  obtain ⟨t14, h_t14, v_t14⟩ := va_div v_m14 (y := 4649861062143770624) (finB_fin (by decide)) (lz := 4121825792762848073) (hz := 4166007270036277347) (g := (1 / 302231454903657293676544 : Rat)) (by decide +kernel)
  replace v_t14 := v_t14.at (q' := (1 / 304888344611713860501504000000 : Rat) * u ^ 14) (by rw [show val 4649861062143770624 = 756 by decide +kernel]; grind)
  obtain ⟨s14, h_s14, v_s14⟩ := va_addS v_s13 v_t14 (lz := 4602809142273724816) (hz := 4604776959016104138) (g := (159334693 / 151115727451828646838272 : Rat)) (by decide +kernel)
  refine ⟨s14, ⟨xx, nx, fun k => ([4607182418800017408, t1, t2, t3, t4, t5, t6, t7, t8, t9, t10, t11, t12, t13, t14] : List Nat).getD k 0, fun k => ([4607182418800017408, s1, s2, s3, s4, s5, s6, s7, s8, s9, s10, s11, s12, s13, s14] : List Nat).getD k 0, fun k => ([m1, m2, m3, m4, m5, m6, m7, m8, m9, m10, m11, m12, m13, m14] : List Nat).getD k 0, rfl, rfl, rfl, h_xx, h_nx, fun k hk => ?_⟩, v_s14.at ?_⟩
  · have : k = 0 ∨ k = 1 ∨ k = 2 ∨ k = 3 ∨ k = 4 ∨ k = 5 ∨ k = 6 ∨ k = 7 ∨ k = 8 ∨ k = 9 ∨ k = 10 ∨ k = 11 ∨ k = 12 ∨ k = 13 := by omega
    rcases this with rfl | rfl | rfl | rfl | rfl | rfl | rfl | rfl | rfl | rfl | rfl | rfl | rfl | rfl
    · exact ⟨h_m1, h_t1, h_s1⟩
    · exact ⟨h_m2, h_t2, h_s2⟩
    · exact ⟨h_m3, h_t3, h_s3⟩
    · exact ⟨h_m4, h_t4, h_s4⟩
    · exact ⟨h_m5, h_t5, h_s5⟩
    · exact ⟨h_m6, h_t6, h_s6⟩
    · exact ⟨h_m7, h_t7, h_s7⟩
    · exact ⟨h_m8, h_t8, h_s8⟩
    · exact ⟨h_m9, h_t9, h_s9⟩
    · exact ⟨h_m10, h_t10, h_s10⟩
    · exact ⟨h_m11, h_t11, h_s11⟩
    · exact ⟨h_m12, h_t12, h_s12⟩
    · exact ⟨h_m13, h_t13, h_s13⟩
    · exact ⟨h_m14, h_t14, h_s14⟩
  · rw [← hu]; unfold tayL; simp only [ev]; grind
end Go.Proofs.YtkdlfggghgchjaaDoor
