/-
  math.cos at great numbers, and at no number. No condition but the tables.
-/
import Derived.Test.YtkdlfggghgchjaaDoorCfn
namespace Go.Proofs.YtkdlfggghgchjaaDoor
open Go.ChangeShapes Go.WideShapes Go.ChangeAt Go.RowKit Fp
set_option linter.unusedVariables false

set_option maxHeartbeats 4000000 in
theorem huge (x X : Nat) (h1 : 4737786807993761792 ≤ X) (h2 : X < 9218868437227405312) (w : World)
    (HN : Hid (Calls Tryd.prog 14 #[.float .f64 x] w fun e w' => e = .returned (.bool false) ∧ w = w')) (HI : Hid (Calls Tryd.prog 15 #[.float .f64 x, .int .i64 0] w fun e w' => e = .returned (.bool false) ∧ w = w'))
    (HA : Hid (Calls Tryd.prog 17 #[.float .f64 x] w fun e w' => e = .returned (.float .f64 X) ∧ w = w')) (hT : CTabs w) :
    Calls Tryd.prog 13 #[.float .f64 x] w fun e w' => ∃ R k, e = .returned (.float .f64 R) ∧ w' = w.drewN k := by
  have HR : Hid (Calls Tryd.prog 18 #[.float .f64 X] w fun e w' => (∃ (j : Int) (z : Nat), e = .returned (.tuple #[.int .u64 j, .float .f64 z]) ∧ (j = 0 ∨ j = 2 ∨ j = 4 ∨ j = 6) ∧ Fp.In 13835058055282163712 4611686018427387904 z) ∧ ∃ k, w' = w.drewN k) := by
    have hX : X = X / 4503599627370496 * 4503599627370496 + X % 4503599627370496 := by omega
    rw [hX]
    exact trig18 _ _ ((X / 4503599627370496 - 1014) / 64) ((X / 4503599627370496 - 1014) % 64) (by omega) (by omega) (by omega) (by omega) (by omega) w hT
  have g : (FloatKind.f64.format.order X 4737786807993761792 == some .gt || FloatKind.f64.format.order X 4737786807993761792 == some .eq) = true := by
    rw [f_gt (nn_pos (by omega)) (by decide), f_eq (nn_pos (by omega)) (by decide), ky_pos (by omega), ky_pos (by omega)]
    simp; omega
  have l0 := hT.cos 0 (by omega)
  rw [show cosW.getD 0 0 = 13666448263388469915 from rfl] at l0
  have m0 := hT.sin 0 (by omega)
  rw [show sinW.getD 0 0 = 4460209587652500685 from rfl] at m0
  have l1 := hT.cos 1 (by omega)
  rw [show cosW.getD 1 0 = 4477121864728985349 from rfl] at l1
  have m1 := hT.sin 1 (by omega)
  rw [show sinW.getD 1 0 = 13716528389658582877 from rfl] at m1
  have l2 := hT.cos 2 (by omega)
  rw [show cosW.getD 2 0 = 13732177093698800582 from rfl] at l2
  have m2 := hT.sin 2 (by omega)
  rw [show sinW.getD 2 0 = 4523617212962785441 from rfl] at m2
  have l3 := hT.cos 3 (by omega)
  rw [show cosW.getD 3 0 = 4537941361668146421 from rfl] at l3
  have m3 := hT.sin 3 (by omega)
  rw [show sinW.getD 3 0 = 13774824197404483331 from rfl] at m3
  have l4 := hT.cos 4 (by omega)
  rw [show cosW.getD 4 0 = 13787419979223748497 from rfl] at l4
  have m4 := hT.sin 4 (by omega)
  rw [show sinW.getD 4 0 = 4575957461383575504 from rfl] at m4
  have l5 := hT.cos 5 (by omega)
  rw [show cosW.getD 5 0 = 4586165620538955083 from rfl] at l5
  have m5 := hT.sin 5 (by omega)
  rw [show sinW.getD 5 0 = 13818544856648471880 from rfl] at m5
  clear hT h1 h2
  go_enter Tryd.func13, Tryd.ntmps13
  go_wp2_with (first
    | (go_at_call 14; (with_reducible refine HN.out.mono ?_); rintro _ _ ⟨rfl, rfl⟩)
    | (go_at_call 15; (with_reducible refine HI.out.mono ?_); rintro _ _ ⟨rfl, rfl⟩)
    | (go_at_call 17; (with_reducible refine HA.out.mono ?_); rintro _ _ ⟨rfl, rfl⟩)
    | (go_at_call 18; (with_reducible refine HR.out.mono ?_); rintro _ _ ⟨⟨j, z, rfl, hj, iz⟩, k, rfl⟩; obtain ⟨ac, ha, -⟩ := cosWide (iz.wide (by decide)); obtain ⟨bc, hb, -⟩ := sinWide (iz.wide (by decide)); clear iz; obtain ⟨azz, aa1, aa2, ab, ap1, ap2, ap3, ap4, ap5, ap6, ap7, ap8, ap9, ap10, am, ak0, ak1, ak2, ak3, ak4, ak5, ak6, ak7, ak8, ak9, ak10, ak11, ak12, ak13, ak14, ak15⟩ := ha; have ag0 := fun (t : TypeId) (W : World) => run_float_arith (P := Tryd.prog) W .mul t .f64 _ _ _ (show floatBits .mul .f64 z z = some azz from ak0); have ag1 := fun (t : TypeId) (W : World) => run_float_arith (P := Tryd.prog) W .mul t .f64 _ _ _ (show floatBits .mul .f64 4602678819172646912 azz = some aa1 from ak1); have ag2 := fun (t : TypeId) (W : World) => run_float_arith (P := Tryd.prog) W .sub t .f64 _ _ _ (show floatBits .sub .f64 4607182418800017408 aa1 = some aa2 from ak2); have ag3 := fun (t : TypeId) (W : World) => run_float_arith (P := Tryd.prog) W .mul t .f64 _ _ _ (show floatBits .mul .f64 azz azz = some ab from ak3); have ag4 := fun (t : TypeId) (W : World) => run_float_arith (P := Tryd.prog) W .mul t .f64 _ _ _ (show floatBits .mul .f64 13666448263388469915 azz = some ap1 from ak4); have ag5 := fun (t : TypeId) (W : World) => run_float_arith (P := Tryd.prog) W .add t .f64 _ _ _ (show floatBits .add .f64 ap1 4477121864728985349 = some ap2 from ak5); have ag6 := fun (t : TypeId) (W : World) => run_float_arith (P := Tryd.prog) W .mul t .f64 _ _ _ (show floatBits .mul .f64 ap2 azz = some ap3 from ak6); have ag7 := fun (t : TypeId) (W : World) => run_float_arith (P := Tryd.prog) W .add t .f64 _ _ _ (show floatBits .add .f64 ap3 13732177093698800582 = some ap4 from ak7); have ag8 := fun (t : TypeId) (W : World) => run_float_arith (P := Tryd.prog) W .mul t .f64 _ _ _ (show floatBits .mul .f64 ap4 azz = some ap5 from ak8); have ag9 := fun (t : TypeId) (W : World) => run_float_arith (P := Tryd.prog) W .add t .f64 _ _ _ (show floatBits .add .f64 ap5 4537941361668146421 = some ap6 from ak9); have ag10 := fun (t : TypeId) (W : World) => run_float_arith (P := Tryd.prog) W .mul t .f64 _ _ _ (show floatBits .mul .f64 ap6 azz = some ap7 from ak10); have ag11 := fun (t : TypeId) (W : World) => run_float_arith (P := Tryd.prog) W .add t .f64 _ _ _ (show floatBits .add .f64 ap7 13787419979223748497 = some ap8 from ak11); have ag12 := fun (t : TypeId) (W : World) => run_float_arith (P := Tryd.prog) W .mul t .f64 _ _ _ (show floatBits .mul .f64 ap8 azz = some ap9 from ak12); have ag13 := fun (t : TypeId) (W : World) => run_float_arith (P := Tryd.prog) W .add t .f64 _ _ _ (show floatBits .add .f64 ap9 4586165620538955083 = some ap10 from ak13); have ag14 := fun (t : TypeId) (W : World) => run_float_arith (P := Tryd.prog) W .mul t .f64 _ _ _ (show floatBits .mul .f64 ab ap10 = some am from ak14); have ag15 := fun (t : TypeId) (W : World) => run_float_arith (P := Tryd.prog) W .add t .f64 _ _ _ (show floatBits .add .f64 aa2 am = some ac from ak15); clear ak1 ak2 ak3 ak4 ak5 ak6 ak7 ak8 ak9 ak10 ak11 ak12 ak13 ak14 ak15; obtain ⟨bzz, bb, bp1, bp2, bp3, bp4, bp5, bp6, bp7, bp8, bp9, bp10, bm, bk0, bk1, bk2, bk3, bk4, bk5, bk6, bk7, bk8, bk9, bk10, bk11, bk12, bk13⟩ := hb; have hzz := Option.some.inj (bk0.symm.trans ak0); subst hzz; have bg0 := fun (t : TypeId) (W : World) => run_float_arith (P := Tryd.prog) W .mul t .f64 _ _ _ (show floatBits .mul .f64 z z = some bzz from bk0); have bg1 := fun (t : TypeId) (W : World) => run_float_arith (P := Tryd.prog) W .mul t .f64 _ _ _ (show floatBits .mul .f64 z bzz = some bb from bk1); have bg2 := fun (t : TypeId) (W : World) => run_float_arith (P := Tryd.prog) W .mul t .f64 _ _ _ (show floatBits .mul .f64 4460209587652500685 bzz = some bp1 from bk2); have bg3 := fun (t : TypeId) (W : World) => run_float_arith (P := Tryd.prog) W .add t .f64 _ _ _ (show floatBits .add .f64 bp1 13716528389658582877 = some bp2 from bk3); have bg4 := fun (t : TypeId) (W : World) => run_float_arith (P := Tryd.prog) W .mul t .f64 _ _ _ (show floatBits .mul .f64 bp2 bzz = some bp3 from bk4); have bg5 := fun (t : TypeId) (W : World) => run_float_arith (P := Tryd.prog) W .add t .f64 _ _ _ (show floatBits .add .f64 bp3 4523617212962785441 = some bp4 from bk5); have bg6 := fun (t : TypeId) (W : World) => run_float_arith (P := Tryd.prog) W .mul t .f64 _ _ _ (show floatBits .mul .f64 bp4 bzz = some bp5 from bk6); have bg7 := fun (t : TypeId) (W : World) => run_float_arith (P := Tryd.prog) W .add t .f64 _ _ _ (show floatBits .add .f64 bp5 13774824197404483331 = some bp6 from bk7); have bg8 := fun (t : TypeId) (W : World) => run_float_arith (P := Tryd.prog) W .mul t .f64 _ _ _ (show floatBits .mul .f64 bp6 bzz = some bp7 from bk8); have bg9 := fun (t : TypeId) (W : World) => run_float_arith (P := Tryd.prog) W .add t .f64 _ _ _ (show floatBits .add .f64 bp7 4575957461383575504 = some bp8 from bk9); have bg10 := fun (t : TypeId) (W : World) => run_float_arith (P := Tryd.prog) W .mul t .f64 _ _ _ (show floatBits .mul .f64 bp8 bzz = some bp9 from bk10); have bg11 := fun (t : TypeId) (W : World) => run_float_arith (P := Tryd.prog) W .add t .f64 _ _ _ (show floatBits .add .f64 bp9 13818544856648471880 = some bp10 from bk11); have bg12 := fun (t : TypeId) (W : World) => run_float_arith (P := Tryd.prog) W .mul t .f64 _ _ _ (show floatBits .mul .f64 bb bp10 = some bm from bk12); have bg13 := fun (t : TypeId) (W : World) => run_float_arith (P := Tryd.prog) W .add t .f64 _ _ _ (show floatBits .add .f64 z bm = some bc from bk13); clear bk0 bk1 bk2 bk3 bk4 bk5 bk6 bk7 bk8 bk9 bk10 bk11 bk12 bk13; rcases hj with rfl | rfl | rfl | rfl))
  all_goals go_ret
  all_goals exact ⟨_, k, rfl, rfl⟩
theorem none13 (x : Nat) (hx : x < 18446744073709551616) (h : 9218868437227405312 ≤ rg x) (w : World) : Calls Tryd.prog 13 #[.float .f64 x] w fun e w' => e = .returned (.float .f64 9221120237041090561) ∧ w = w' := by
  have HN := Lib.hid (isNanB x _ rfl w)
  have HI := Lib.hid (isInfB x hx _ rfl w)
  have HC := Lib.hid (nan16 w)
  have hb : (decide (Fp.nan x) || decide (rg x = 9218868437227405312)) = true := by
    simp only [Bool.or_eq_true, decide_eq_true_eq]; unfold Fp.nan; omega
  generalize decide (Fp.nan x) = b1 at *
  generalize decide (rg x = 9218868437227405312) = b2 at *
  clear h hx
  cases b1 <;> cases b2 <;> try exact absurd hb (by decide)
  all_goals
    clear hb
    go_enter Tryd.func13, Tryd.ntmps13
    go_wp2_with (first
      | (go_at_call 14; (with_reducible refine HN.out.mono ?_); rintro _ _ ⟨rfl, rfl⟩)
      | (go_at_call 15; (with_reducible refine HI.out.mono ?_); rintro _ _ ⟨rfl, rfl⟩)
      | (go_at_call 16; (with_reducible refine HC.out.mono ?_); rintro _ _ ⟨rfl, rfl⟩))
    go_ret
    exact ⟨rfl, rfl⟩
end Go.Proofs.YtkdlfggghgchjaaDoor
