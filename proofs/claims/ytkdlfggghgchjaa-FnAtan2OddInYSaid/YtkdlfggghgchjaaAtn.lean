/-
  Contracts of math.xatan on three intervals. No condition.
-/
import Derived.Test.YtkdlfggghgchjaaFri
import Derived.Test.YtkdlfggghgchjaaFord
import Derived.Test.YtkdlfggghgchjaaProg
import Derived.WalkSmall
namespace Go.Proofs.Ytkdlfggghgchjaa
open Go.ChangeShapes Go.WideShapes Go.ChangeAt Go.RowKit Fp
set_option linter.unusedVariables false

set_option maxRecDepth 100000 in
theorem xatS {x : Nat} (ix : In 0 4604119971053405471 x) : ∃ d m r, (∀ w, Calls Try.prog 40 #[.float .f64 x] w fun e w' => e = .returned (.float .f64 r) ∧ w = w') ∧
    In 13822447623875900737 0 d ∧ In 13819673293721560325 0 m ∧ In 13819673293721560325 4604119971053405471 r ∧ Ieee.double.mul x d = some m ∧ Ieee.double.add m x = some r := by
  obtain ⟨z0, h_z0, i_z0⟩ := mul_in ix ix (lz := 0) (hz := 4601518691908636273) (by decide +kernel)
  obtain ⟨p1, h_p1, i_p1⟩ := mul_in (In.self (x := 13829429103926125972) (finB_fin (by decide))) i_z0 (lz := 13823910322337397178) (hz := 0) (by decide +kernel)
  obtain ⟨p2, h_p2, i_p2⟩ := add_in i_p1 (In.self (x := 13848613196940411002) (finB_fin (by decide))) (lz := 13848720488589859681) (hz := 13848613196940411002) (by decide +kernel)
  obtain ⟨p3, h_p3, i_p3⟩ := mul_in i_p2 i_z0 (lz := 13843169335096032465) (hz := 0) (by decide +kernel)
  obtain ⟨p4, h_p4, i_p4⟩ := add_in i_p3 (In.self (x := 13858350711815275123) (finB_fin (by decide))) (lz := 13858857666803641921) (hz := 13858350711815275123) (by decide +kernel)
  obtain ⟨p5, h_p5, i_p5⟩ := mul_in i_p4 i_z0 (lz := 13853608931740326312) (hz := 0) (by decide +kernel)
  obtain ⟨p6, h_p6, i_p6⟩ := add_in i_p5 (In.self (x := 13861719834326579749) (finB_fin (by decide))) (lz := 13863159763080495997) (hz := 13861719834326579749) (by decide +kernel)
  obtain ⟨p7, h_p7, i_p7⟩ := mul_in i_p6 i_z0 (lz := 13857936981648726903) (hz := 0) (by decide +kernel)
  obtain ⟨p8, h_p8, i_p8⟩ := add_in i_p7 (In.self (x := 13857635882265799822) (finB_fin (by decide))) (lz := 13862290031584633859) (hz := 13857635882265799822) (by decide +kernel)
  obtain ⟨n, h_n, i_n⟩ := mul_in i_z0 i_p8 (lz := 13856782489720047424) (hz := 0) (by decide +kernel)
  obtain ⟨q1, h_q1, i_q1⟩ := add_in i_z0 (In.self (x := 4627690253511319612) (finB_fin (by decide))) (lz := 4627690253511319612) (hz := 4627812864011174774) (by decide +kernel)
  obtain ⟨q2, h_q2, i_q2⟩ := mul_in i_q1 i_z0 (lz := 0) (hz := 4622392253936623170) (by decide +kernel)
  obtain ⟨q3, h_q3, i_q3⟩ := add_in i_q2 (In.self (x := 4640010388282866213) (finB_fin (by decide))) (lz := 4640010388282866213) (hz := 4640398053025482762) (by decide +kernel)
  obtain ⟨q4, h_q4, i_q4⟩ := mul_in i_q3 i_z0 (lz := 0) (hz := 4635096661501904249) (by decide +kernel)
  obtain ⟨q5, h_q5, i_q5⟩ := add_in i_q4 (In.self (x := 4646322940342877755) (finB_fin (by decide))) (lz := 4646322940342877755) (hz := 4647672001484136346) (by decide +kernel)
  obtain ⟨q6, h_q6, i_q6⟩ := mul_in i_q5 i_z0 (lz := 0) (hz := 4642013789031088571) (by decide +kernel)
  obtain ⟨q7, h_q7, i_q7⟩ := add_in i_q6 (In.self (x := 4647246694406179306) (finB_fin (by decide))) (lz := 4647246694406179306) (hz := 4649433198042977636) (by decide +kernel)
  obtain ⟨q8, h_q8, i_q8⟩ := mul_in i_q7 i_z0 (lz := 0) (hz := 4644128207105156423) (by decide +kernel)
  obtain ⟨q9, h_q9, i_q9⟩ := add_in i_q8 (In.self (x := 4641049159275471596) (finB_fin (by decide))) (lz := 4641049159275471596) (hz := 4647550778460772029) (by decide +kernel)
  obtain ⟨d, h_d, i_d, -⟩ := div_in i_n i_q9 (lz := 13822447623875900737) (hz := 0) (by decide +kernel)
  obtain ⟨m, h_m, i_m⟩ := mul_in ix i_d (lz := 13819673293721560325) (hz := 0) (by decide +kernel)
  obtain ⟨r, h_r, i_r⟩ := add_in i_m ix (lz := 13819673293721560325) (hz := 4604119971053405471) (by decide +kernel)
  have e_z0 := fun (t : TypeId) (W : World) => run_float_arith (P := Try.prog) W .mul t .f64 _ _ _ (show floatBits .mul .f64 x x = some z0 from h_z0)
  have e_p1 := fun (t : TypeId) (W : World) => run_float_arith (P := Try.prog) W .mul t .f64 _ _ _ (show floatBits .mul .f64 13829429103926125972 z0 = some p1 from h_p1)
  have e_p2 := fun (t : TypeId) (W : World) => run_float_arith (P := Try.prog) W .add t .f64 _ _ _ (show floatBits .add .f64 p1 13848613196940411002 = some p2 from h_p2)
  have e_p3 := fun (t : TypeId) (W : World) => run_float_arith (P := Try.prog) W .mul t .f64 _ _ _ (show floatBits .mul .f64 p2 z0 = some p3 from h_p3)
  have e_p4 := fun (t : TypeId) (W : World) => run_float_arith (P := Try.prog) W .add t .f64 _ _ _ (show floatBits .add .f64 p3 13858350711815275123 = some p4 from h_p4)
  have e_p5 := fun (t : TypeId) (W : World) => run_float_arith (P := Try.prog) W .mul t .f64 _ _ _ (show floatBits .mul .f64 p4 z0 = some p5 from h_p5)
  have e_p6 := fun (t : TypeId) (W : World) => run_float_arith (P := Try.prog) W .add t .f64 _ _ _ (show floatBits .add .f64 p5 13861719834326579749 = some p6 from h_p6)
  have e_p7 := fun (t : TypeId) (W : World) => run_float_arith (P := Try.prog) W .mul t .f64 _ _ _ (show floatBits .mul .f64 p6 z0 = some p7 from h_p7)
  have e_p8 := fun (t : TypeId) (W : World) => run_float_arith (P := Try.prog) W .add t .f64 _ _ _ (show floatBits .add .f64 p7 13857635882265799822 = some p8 from h_p8)
  have e_n := fun (t : TypeId) (W : World) => run_float_arith (P := Try.prog) W .mul t .f64 _ _ _ (show floatBits .mul .f64 z0 p8 = some n from h_n)
  have e_q1 := fun (t : TypeId) (W : World) => run_float_arith (P := Try.prog) W .add t .f64 _ _ _ (show floatBits .add .f64 z0 4627690253511319612 = some q1 from h_q1)
  have e_q2 := fun (t : TypeId) (W : World) => run_float_arith (P := Try.prog) W .mul t .f64 _ _ _ (show floatBits .mul .f64 q1 z0 = some q2 from h_q2)
  have e_q3 := fun (t : TypeId) (W : World) => run_float_arith (P := Try.prog) W .add t .f64 _ _ _ (show floatBits .add .f64 q2 4640010388282866213 = some q3 from h_q3)
  have e_q4 := fun (t : TypeId) (W : World) => run_float_arith (P := Try.prog) W .mul t .f64 _ _ _ (show floatBits .mul .f64 q3 z0 = some q4 from h_q4)
  have e_q5 := fun (t : TypeId) (W : World) => run_float_arith (P := Try.prog) W .add t .f64 _ _ _ (show floatBits .add .f64 q4 4646322940342877755 = some q5 from h_q5)
  have e_q6 := fun (t : TypeId) (W : World) => run_float_arith (P := Try.prog) W .mul t .f64 _ _ _ (show floatBits .mul .f64 q5 z0 = some q6 from h_q6)
  have e_q7 := fun (t : TypeId) (W : World) => run_float_arith (P := Try.prog) W .add t .f64 _ _ _ (show floatBits .add .f64 q6 4647246694406179306 = some q7 from h_q7)
  have e_q8 := fun (t : TypeId) (W : World) => run_float_arith (P := Try.prog) W .mul t .f64 _ _ _ (show floatBits .mul .f64 q7 z0 = some q8 from h_q8)
  have e_q9 := fun (t : TypeId) (W : World) => run_float_arith (P := Try.prog) W .add t .f64 _ _ _ (show floatBits .add .f64 q8 4641049159275471596 = some q9 from h_q9)
  have e_d := fun (t : TypeId) (W : World) => run_float_arith (P := Try.prog) W .quo t .f64 _ _ _ (show floatBits .quo .f64 n q9 = some d from h_d)
  have e_m := fun (t : TypeId) (W : World) => run_float_arith (P := Try.prog) W .mul t .f64 _ _ _ (show floatBits .mul .f64 x d = some m from h_m)
  have e_r := fun (t : TypeId) (W : World) => run_float_arith (P := Try.prog) W .add t .f64 _ _ _ (show floatBits .add .f64 m x = some r from h_r)
  refine ⟨d, m, r, fun w => ?_, i_d, i_m, i_r, h_m, h_r⟩
  clear ix i_z0 h_z0 i_p1 h_p1 i_p2 h_p2 i_p3 h_p3 i_p4 h_p4 i_p5 h_p5 i_p6 h_p6 i_p7 h_p7 i_p8 h_p8 i_n h_n i_q1 h_q1 i_q2 h_q2 i_q3 h_q3 i_q4 h_q4 i_q5 h_q5 i_q6 h_q6 i_q7 h_q7 i_q8 h_q8 i_q9 h_q9 i_d h_d i_m h_m i_r h_r
  go_enter Try.func40, Try.ntmps40
  go_wp2_with fail
  go_ret
  exact ⟨rfl, rfl⟩
set_option maxRecDepth 100000 in
theorem xatA {x : Nat} (ix : In 13819919449305821924 0 x) : ∃ d m r, (∀ w, Calls Try.prog 40 #[.float .f64 x] w fun e w' => e = .returned (.float .f64 r) ∧ w = w') ∧
    In 13803244042536090822 0 d ∧ In 0 4569289194878333979 m ∧ In 13819919449305821924 4569289194878333979 r ∧ Ieee.double.mul x d = some m ∧ Ieee.double.add m x = some r := by
  obtain ⟨z0, h_z0, i_z0⟩ := mul_in ix ix (lz := 0) (hz := 4586206588107056204) (by decide +kernel)
  obtain ⟨p1, h_p1, i_p1⟩ := mul_in (In.self (x := 13829429103926125972) (finB_fin (by decide))) i_z0 (lz := 13808823272023327536) (hz := 0) (by decide +kernel)
  obtain ⟨p2, h_p2, i_p2⟩ := add_in i_p1 (In.self (x := 13848613196940411002) (finB_fin (by decide))) (lz := 13848623529780514044) (hz := 13848613196940411002) (by decide +kernel)
  obtain ⟨p3, h_p3, i_p3⟩ := mul_in i_p2 i_z0 (lz := 13827666421656678611) (hz := 0) (by decide +kernel)
  obtain ⟨p4, h_p4, i_p4⟩ := add_in i_p3 (In.self (x := 13858350711815275123) (finB_fin (by decide))) (lz := 13858398517793842517) (hz := 13858350711815275123) (by decide +kernel)
  obtain ⟨p5, h_p5, i_p5⟩ := mul_in i_p4 i_z0 (lz := 13837704323544518315) (hz := 0) (by decide +kernel)
  obtain ⟨p6, h_p6, i_p6⟩ := add_in i_p5 (In.self (x := 13861719834326579749) (finB_fin (by decide))) (lz := 13861943267698133659) (hz := 13861719834326579749) (by decide +kernel)
  obtain ⟨p7, h_p7, i_p7⟩ := mul_in i_p6 i_z0 (lz := 13841012278464570497) (hz := 0) (by decide +kernel)
  obtain ⟨p8, h_p8, i_p8⟩ := add_in i_p7 (In.self (x := 13857635882265799822) (finB_fin (by decide))) (lz := 13858008021214700247) (hz := 13857635882265799822) (by decide +kernel)
  obtain ⟨n, h_n, i_n⟩ := mul_in i_z0 i_p8 (lz := 13837180109237085057) (hz := 0) (by decide +kernel)
  obtain ⟨q1, h_q1, i_q1⟩ := add_in i_z0 (In.self (x := 4627690253511319612) (finB_fin (by decide))) (lz := 4627690253511319612) (hz := 4627702061650130671) (by decide +kernel)
  obtain ⟨q2, h_q2, i_q2⟩ := mul_in i_q1 i_z0 (lz := 0) (hz := 4607383260239280707) (by decide +kernel)
  obtain ⟨q3, h_q3, i_q3⟩ := add_in i_q2 (In.self (x := 4640010388282866213) (finB_fin (by decide))) (lz := 4640010388282866213) (hz := 4640047141728699290) (by decide +kernel)
  obtain ⟨q4, h_q4, i_q4⟩ := mul_in i_q3 i_z0 (lz := 0) (hz := 4619530004712903359) (by decide +kernel)
  obtain ⟨q5, h_q5, i_q5⟩ := add_in i_q4 (In.self (x := 4646322940342877755) (finB_fin (by decide))) (lz := 4646322940342877755) (hz := 4646445502628588934) (by decide +kernel)
  obtain ⟨q6, h_q6, i_q6⟩ := mul_in i_q5 i_z0 (lz := 0) (hz := 4625887002975289954) (by decide +kernel)
  obtain ⟨q7, h_q7, i_q7⟩ := add_in i_q6 (In.self (x := 4647246694406179306) (finB_fin (by decide))) (lz := 4647246694406179306) (hz := 4647571305987001873) (by decide +kernel)
  obtain ⟨q8, h_q8, i_q8⟩ := mul_in i_q7 i_z0 (lz := 0) (hz := 4626642659054445336) (by decide +kernel)
  obtain ⟨q9, h_q9, i_q9⟩ := add_in i_q8 (In.self (x := 4641049159275471596) (finB_fin (by decide))) (lz := 4641049159275471596) (hz := 4641792839447011151) (by decide +kernel)
  obtain ⟨d, h_d, i_d, -⟩ := div_in i_n i_q9 (lz := 13803244042536090822) (hz := 0) (by decide +kernel)
  obtain ⟨m, h_m, i_m⟩ := mul_in ix i_d (lz := 0) (hz := 4569289194878333979) (by decide +kernel)
  obtain ⟨r, h_r, i_r⟩ := add_in i_m ix (lz := 13819919449305821924) (hz := 4569289194878333979) (by decide +kernel)
  have e_z0 := fun (t : TypeId) (W : World) => run_float_arith (P := Try.prog) W .mul t .f64 _ _ _ (show floatBits .mul .f64 x x = some z0 from h_z0)
  have e_p1 := fun (t : TypeId) (W : World) => run_float_arith (P := Try.prog) W .mul t .f64 _ _ _ (show floatBits .mul .f64 13829429103926125972 z0 = some p1 from h_p1)
  have e_p2 := fun (t : TypeId) (W : World) => run_float_arith (P := Try.prog) W .add t .f64 _ _ _ (show floatBits .add .f64 p1 13848613196940411002 = some p2 from h_p2)
  have e_p3 := fun (t : TypeId) (W : World) => run_float_arith (P := Try.prog) W .mul t .f64 _ _ _ (show floatBits .mul .f64 p2 z0 = some p3 from h_p3)
  have e_p4 := fun (t : TypeId) (W : World) => run_float_arith (P := Try.prog) W .add t .f64 _ _ _ (show floatBits .add .f64 p3 13858350711815275123 = some p4 from h_p4)
  have e_p5 := fun (t : TypeId) (W : World) => run_float_arith (P := Try.prog) W .mul t .f64 _ _ _ (show floatBits .mul .f64 p4 z0 = some p5 from h_p5)
  have e_p6 := fun (t : TypeId) (W : World) => run_float_arith (P := Try.prog) W .add t .f64 _ _ _ (show floatBits .add .f64 p5 13861719834326579749 = some p6 from h_p6)
  have e_p7 := fun (t : TypeId) (W : World) => run_float_arith (P := Try.prog) W .mul t .f64 _ _ _ (show floatBits .mul .f64 p6 z0 = some p7 from h_p7)
  have e_p8 := fun (t : TypeId) (W : World) => run_float_arith (P := Try.prog) W .add t .f64 _ _ _ (show floatBits .add .f64 p7 13857635882265799822 = some p8 from h_p8)
  have e_n := fun (t : TypeId) (W : World) => run_float_arith (P := Try.prog) W .mul t .f64 _ _ _ (show floatBits .mul .f64 z0 p8 = some n from h_n)
  have e_q1 := fun (t : TypeId) (W : World) => run_float_arith (P := Try.prog) W .add t .f64 _ _ _ (show floatBits .add .f64 z0 4627690253511319612 = some q1 from h_q1)
  have e_q2 := fun (t : TypeId) (W : World) => run_float_arith (P := Try.prog) W .mul t .f64 _ _ _ (show floatBits .mul .f64 q1 z0 = some q2 from h_q2)
  have e_q3 := fun (t : TypeId) (W : World) => run_float_arith (P := Try.prog) W .add t .f64 _ _ _ (show floatBits .add .f64 q2 4640010388282866213 = some q3 from h_q3)
  have e_q4 := fun (t : TypeId) (W : World) => run_float_arith (P := Try.prog) W .mul t .f64 _ _ _ (show floatBits .mul .f64 q3 z0 = some q4 from h_q4)
  have e_q5 := fun (t : TypeId) (W : World) => run_float_arith (P := Try.prog) W .add t .f64 _ _ _ (show floatBits .add .f64 q4 4646322940342877755 = some q5 from h_q5)
  have e_q6 := fun (t : TypeId) (W : World) => run_float_arith (P := Try.prog) W .mul t .f64 _ _ _ (show floatBits .mul .f64 q5 z0 = some q6 from h_q6)
  have e_q7 := fun (t : TypeId) (W : World) => run_float_arith (P := Try.prog) W .add t .f64 _ _ _ (show floatBits .add .f64 q6 4647246694406179306 = some q7 from h_q7)
  have e_q8 := fun (t : TypeId) (W : World) => run_float_arith (P := Try.prog) W .mul t .f64 _ _ _ (show floatBits .mul .f64 q7 z0 = some q8 from h_q8)
  have e_q9 := fun (t : TypeId) (W : World) => run_float_arith (P := Try.prog) W .add t .f64 _ _ _ (show floatBits .add .f64 q8 4641049159275471596 = some q9 from h_q9)
  have e_d := fun (t : TypeId) (W : World) => run_float_arith (P := Try.prog) W .quo t .f64 _ _ _ (show floatBits .quo .f64 n q9 = some d from h_d)
  have e_m := fun (t : TypeId) (W : World) => run_float_arith (P := Try.prog) W .mul t .f64 _ _ _ (show floatBits .mul .f64 x d = some m from h_m)
  have e_r := fun (t : TypeId) (W : World) => run_float_arith (P := Try.prog) W .add t .f64 _ _ _ (show floatBits .add .f64 m x = some r from h_r)
  refine ⟨d, m, r, fun w => ?_, i_d, i_m, i_r, h_m, h_r⟩
  clear ix i_z0 h_z0 i_p1 h_p1 i_p2 h_p2 i_p3 h_p3 i_p4 h_p4 i_p5 h_p5 i_p6 h_p6 i_p7 h_p7 i_p8 h_p8 i_n h_n i_q1 h_q1 i_q2 h_q2 i_q3 h_q3 i_q4 h_q4 i_q5 h_q5 i_q6 h_q6 i_q7 h_q7 i_q8 h_q8 i_q9 h_q9 i_d h_d i_m h_m i_r h_r
  go_enter Try.func40, Try.ntmps40
  go_wp2_with fail
  go_ret
  exact ⟨rfl, rfl⟩
set_option maxRecDepth 100000 in
theorem xatB {x : Nat} (ix : In 0 4604544271217802188 x) : ∃ d m r, (∀ w, Calls Try.prog 40 #[.float .f64 x] w fun e w' => e = .returned (.float .f64 r) ∧ w = w') ∧
    In 13823854941094164146 0 d ∧ In 13821859962104991558 0 m ∧ In 13821859962104991558 4604544271217802188 r ∧ Ieee.double.mul x d = some m ∧ Ieee.double.add m x = some r := by
  obtain ⟨z0, h_z0, i_z0⟩ := mul_in ix ix (lz := 0) (hz := 4602678819172646911) (by decide +kernel)
  obtain ⟨p1, h_p1, i_p1⟩ := mul_in (In.self (x := 13829429103926125972) (finB_fin (by decide))) i_z0 (lz := 13824925504298755476) (hz := 0) (by decide +kernel)
  obtain ⟨p2, h_p2, i_p2⟩ := add_in i_p1 (In.self (x := 13848613196940411002) (finB_fin (by decide))) (lz := 13848736350808005905) (hz := 13848613196940411002) (by decide +kernel)
  obtain ⟨p3, h_p3, i_p3⟩ := mul_in i_p2 i_z0 (lz := 13844232751180635409) (hz := 0) (by decide +kernel)
  obtain ⟨p4, h_p4, i_p4⟩ := add_in i_p3 (In.self (x := 13858350711815275123) (finB_fin (by decide))) (lz := 13858934598849162774) (hz := 13858350711815275123) (by decide +kernel)
  obtain ⟨p5, h_p5, i_p5⟩ := mul_in i_p4 i_z0 (lz := 13854430999221792278) (hz := 0) (by decide +kernel)
  obtain ⟨p6, h_p6, i_p6⟩ := add_in i_p5 (In.self (x := 13861719834326579749) (finB_fin (by decide))) (lz := 13863365279950862488) (hz := 13861719834326579749) (by decide +kernel)
  obtain ⟨p7, h_p7, i_p7⟩ := mul_in i_p6 i_z0 (lz := 13858861680323491992) (hz := 0) (by decide +kernel)
  obtain ⟨p8, h_p8, i_p8⟩ := add_in i_p7 (In.self (x := 13857635882265799822) (finB_fin (by decide))) (lz := 13862752380922016403) (hz := 13857635882265799822) (by decide +kernel)
  obtain ⟨n, h_n, i_n⟩ := mul_in i_z0 i_p8 (lz := 13858248781294645907) (hz := 0) (by decide +kernel)
  obtain ⟨q1, h_q1, i_q1⟩ := add_in i_z0 (In.self (x := 4627690253511319612) (finB_fin (by decide))) (lz := 4627690253511319612) (hz := 4627830990999674940) (by decide +kernel)
  obtain ⟨q2, h_q2, i_q2⟩ := mul_in i_q1 i_z0 (lz := 0) (hz := 4623327391372304444) (by decide +kernel)
  obtain ⟨q3, h_q3, i_q3⟩ := add_in i_q2 (In.self (x := 4640010388282866213) (finB_fin (by decide))) (lz := 4640010388282866213) (hz := 4640456499115212841) (by decide +kernel)
  obtain ⟨q4, h_q4, i_q4⟩ := mul_in i_q3 i_z0 (lz := 0) (hz := 4635952899487842345) (by decide +kernel)
  obtain ⟨q5, h_q5, i_q5⟩ := add_in i_q4 (In.self (x := 4646322940342877755) (finB_fin (by decide))) (lz := 4646322940342877755) (hz := 4647800438213486371) (by decide +kernel)
  obtain ⟨q6, h_q6, i_q6⟩ := mul_in i_q5 i_z0 (lz := 0) (hz := 4643296838586115875) (by decide +kernel)
  obtain ⟨q7, h_q7, i_q7⟩ := add_in i_q6 (In.self (x := 4647246694406179306) (finB_fin (by decide))) (lz := 4647246694406179306) (hz := 4649775366123518087) (by decide +kernel)
  obtain ⟨q8, h_q8, i_q8⟩ := mul_in i_q7 i_z0 (lz := 0) (hz := 4645271766496147591) (by decide +kernel)
  obtain ⟨q9, h_q9, i_q9⟩ := add_in i_q8 (In.self (x := 4641049159275471596) (finB_fin (by decide))) (lz := 4641049159275471596) (hz := 4648204576649057535) (by decide +kernel)
  obtain ⟨d, h_d, i_d, -⟩ := div_in i_n i_q9 (lz := 13823854941094164146) (hz := 0) (by decide +kernel)
  obtain ⟨m, h_m, i_m⟩ := mul_in ix i_d (lz := 13821859962104991558) (hz := 0) (by decide +kernel)
  obtain ⟨r, h_r, i_r⟩ := add_in i_m ix (lz := 13821859962104991558) (hz := 4604544271217802188) (by decide +kernel)
  have e_z0 := fun (t : TypeId) (W : World) => run_float_arith (P := Try.prog) W .mul t .f64 _ _ _ (show floatBits .mul .f64 x x = some z0 from h_z0)
  have e_p1 := fun (t : TypeId) (W : World) => run_float_arith (P := Try.prog) W .mul t .f64 _ _ _ (show floatBits .mul .f64 13829429103926125972 z0 = some p1 from h_p1)
  have e_p2 := fun (t : TypeId) (W : World) => run_float_arith (P := Try.prog) W .add t .f64 _ _ _ (show floatBits .add .f64 p1 13848613196940411002 = some p2 from h_p2)
  have e_p3 := fun (t : TypeId) (W : World) => run_float_arith (P := Try.prog) W .mul t .f64 _ _ _ (show floatBits .mul .f64 p2 z0 = some p3 from h_p3)
  have e_p4 := fun (t : TypeId) (W : World) => run_float_arith (P := Try.prog) W .add t .f64 _ _ _ (show floatBits .add .f64 p3 13858350711815275123 = some p4 from h_p4)
  have e_p5 := fun (t : TypeId) (W : World) => run_float_arith (P := Try.prog) W .mul t .f64 _ _ _ (show floatBits .mul .f64 p4 z0 = some p5 from h_p5)
  have e_p6 := fun (t : TypeId) (W : World) => run_float_arith (P := Try.prog) W .add t .f64 _ _ _ (show floatBits .add .f64 p5 13861719834326579749 = some p6 from h_p6)
  have e_p7 := fun (t : TypeId) (W : World) => run_float_arith (P := Try.prog) W .mul t .f64 _ _ _ (show floatBits .mul .f64 p6 z0 = some p7 from h_p7)
  have e_p8 := fun (t : TypeId) (W : World) => run_float_arith (P := Try.prog) W .add t .f64 _ _ _ (show floatBits .add .f64 p7 13857635882265799822 = some p8 from h_p8)
  have e_n := fun (t : TypeId) (W : World) => run_float_arith (P := Try.prog) W .mul t .f64 _ _ _ (show floatBits .mul .f64 z0 p8 = some n from h_n)
  have e_q1 := fun (t : TypeId) (W : World) => run_float_arith (P := Try.prog) W .add t .f64 _ _ _ (show floatBits .add .f64 z0 4627690253511319612 = some q1 from h_q1)
  have e_q2 := fun (t : TypeId) (W : World) => run_float_arith (P := Try.prog) W .mul t .f64 _ _ _ (show floatBits .mul .f64 q1 z0 = some q2 from h_q2)
  have e_q3 := fun (t : TypeId) (W : World) => run_float_arith (P := Try.prog) W .add t .f64 _ _ _ (show floatBits .add .f64 q2 4640010388282866213 = some q3 from h_q3)
  have e_q4 := fun (t : TypeId) (W : World) => run_float_arith (P := Try.prog) W .mul t .f64 _ _ _ (show floatBits .mul .f64 q3 z0 = some q4 from h_q4)
  have e_q5 := fun (t : TypeId) (W : World) => run_float_arith (P := Try.prog) W .add t .f64 _ _ _ (show floatBits .add .f64 q4 4646322940342877755 = some q5 from h_q5)
  have e_q6 := fun (t : TypeId) (W : World) => run_float_arith (P := Try.prog) W .mul t .f64 _ _ _ (show floatBits .mul .f64 q5 z0 = some q6 from h_q6)
  have e_q7 := fun (t : TypeId) (W : World) => run_float_arith (P := Try.prog) W .add t .f64 _ _ _ (show floatBits .add .f64 q6 4647246694406179306 = some q7 from h_q7)
  have e_q8 := fun (t : TypeId) (W : World) => run_float_arith (P := Try.prog) W .mul t .f64 _ _ _ (show floatBits .mul .f64 q7 z0 = some q8 from h_q8)
  have e_q9 := fun (t : TypeId) (W : World) => run_float_arith (P := Try.prog) W .add t .f64 _ _ _ (show floatBits .add .f64 q8 4641049159275471596 = some q9 from h_q9)
  have e_d := fun (t : TypeId) (W : World) => run_float_arith (P := Try.prog) W .quo t .f64 _ _ _ (show floatBits .quo .f64 n q9 = some d from h_d)
  have e_m := fun (t : TypeId) (W : World) => run_float_arith (P := Try.prog) W .mul t .f64 _ _ _ (show floatBits .mul .f64 x d = some m from h_m)
  have e_r := fun (t : TypeId) (W : World) => run_float_arith (P := Try.prog) W .add t .f64 _ _ _ (show floatBits .add .f64 m x = some r from h_r)
  refine ⟨d, m, r, fun w => ?_, i_d, i_m, i_r, h_m, h_r⟩
  clear ix i_z0 h_z0 i_p1 h_p1 i_p2 h_p2 i_p3 h_p3 i_p4 h_p4 i_p5 h_p5 i_p6 h_p6 i_p7 h_p7 i_p8 h_p8 i_n h_n i_q1 h_q1 i_q2 h_q2 i_q3 h_q3 i_q4 h_q4 i_q5 h_q5 i_q6 h_q6 i_q7 h_q7 i_q8 h_q8 i_q9 h_q9 i_d h_d i_m h_m i_r h_r
  go_enter Try.func40, Try.ntmps40
  go_wp2_with fail
  go_ret
  exact ⟨rfl, rfl⟩
end Go.Proofs.Ytkdlfggghgchjaa
