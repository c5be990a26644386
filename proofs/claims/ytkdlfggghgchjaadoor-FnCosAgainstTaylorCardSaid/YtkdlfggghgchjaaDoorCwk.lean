/-
  math.cos, case by case. No condition but the tables.
-/
import Derived.Test.YtkdlfggghgchjaaDoorCmt
import Derived.Test.YtkdlfggghgchjaaDoorCsn
import Derived.Test.YtkdlfggghgchjaaDoorCtb
namespace Go.Proofs.YtkdlfggghgchjaaDoor
open Go.ChangeShapes Go.WideShapes Go.ChangeAt Go.RowKit
set_option linter.unusedVariables false

theorem cosS00 (x X p y z1 z2 z c yA yB yC : Nat) (n : Int) (w : World) (HN : Hid (Calls Tryd.prog 14 #[.float .f64 x] w fun e w' => e = .returned (.bool false) ∧ w = w')) (HI : Hid (Calls Tryd.prog 15 #[.float .f64 x, .int .i64 0] w fun e w' => e = .returned (.bool false) ∧ w = w'))
    (HA : Hid (Calls Tryd.prog 17 #[.float .f64 x] w fun e w' => e = .returned (.float .f64 X) ∧ w = w')) (hT : CTabs w)
    (g : (FloatKind.f64.format.order X 4737786807993761792 == some .gt) = false) (g' : (FloatKind.f64.format.order X 4737786807993761792 == some .eq) = false) (n0 : 0 ≤ n) (n1 : n < 4294967296)
    (hp : Ieee.double.mul X 4608412980311869571 = some p) (hv : floatToIntVal .f64 p .u64 = some n) (ha : bits .and .u64 n 1 = 0) (hj : bits .and .u64 n 7 = 0)
    (hy : floatOfInt .f64 n = y) (hA : Ieee.double.mul y 4605249456957292544 = some yA) (hz1 : Ieee.double.sub X yA = some z1) (hB : Ieee.double.mul y 4495793288086814720 = some yB) (hz2 : Ieee.double.sub z1 yB = some z2)
    (hC : Ieee.double.mul y 4388835458085048688 = some yC) (hz : Ieee.double.sub z2 yC = some z) (hc : CosCh z c) :
    Calls Tryd.prog 13 #[.float .f64 x] w fun e w' => e = .returned (.float .f64 (c)) ∧ w = w' := by
  obtain ⟨zz, a1, a2, b, p1, p2, p3, p4, p5, p6, p7, p8, p9, p10, m, k0, k1, k2, k3, k4, k5, k6, k7, k8, k9, k10, k11, k12, k13, k14, k15⟩ := hc
  have c0 := fun (t : TypeId) (W : World) => run_float_arith (P := Tryd.prog) W .mul t .f64 _ _ _ (show floatBits .mul .f64 z z = some zz from k0)
  have c1 := fun (t : TypeId) (W : World) => run_float_arith (P := Tryd.prog) W .mul t .f64 _ _ _ (show floatBits .mul .f64 4602678819172646912 zz = some a1 from k1)
  have c2 := fun (t : TypeId) (W : World) => run_float_arith (P := Tryd.prog) W .sub t .f64 _ _ _ (show floatBits .sub .f64 4607182418800017408 a1 = some a2 from k2)
  have c3 := fun (t : TypeId) (W : World) => run_float_arith (P := Tryd.prog) W .mul t .f64 _ _ _ (show floatBits .mul .f64 zz zz = some b from k3)
  have c4 := fun (t : TypeId) (W : World) => run_float_arith (P := Tryd.prog) W .mul t .f64 _ _ _ (show floatBits .mul .f64 13666448263388469915 zz = some p1 from k4)
  have c5 := fun (t : TypeId) (W : World) => run_float_arith (P := Tryd.prog) W .add t .f64 _ _ _ (show floatBits .add .f64 p1 4477121864728985349 = some p2 from k5)
  have c6 := fun (t : TypeId) (W : World) => run_float_arith (P := Tryd.prog) W .mul t .f64 _ _ _ (show floatBits .mul .f64 p2 zz = some p3 from k6)
  have c7 := fun (t : TypeId) (W : World) => run_float_arith (P := Tryd.prog) W .add t .f64 _ _ _ (show floatBits .add .f64 p3 13732177093698800582 = some p4 from k7)
  have c8 := fun (t : TypeId) (W : World) => run_float_arith (P := Tryd.prog) W .mul t .f64 _ _ _ (show floatBits .mul .f64 p4 zz = some p5 from k8)
  have c9 := fun (t : TypeId) (W : World) => run_float_arith (P := Tryd.prog) W .add t .f64 _ _ _ (show floatBits .add .f64 p5 4537941361668146421 = some p6 from k9)
  have c10 := fun (t : TypeId) (W : World) => run_float_arith (P := Tryd.prog) W .mul t .f64 _ _ _ (show floatBits .mul .f64 p6 zz = some p7 from k10)
  have c11 := fun (t : TypeId) (W : World) => run_float_arith (P := Tryd.prog) W .add t .f64 _ _ _ (show floatBits .add .f64 p7 13787419979223748497 = some p8 from k11)
  have c12 := fun (t : TypeId) (W : World) => run_float_arith (P := Tryd.prog) W .mul t .f64 _ _ _ (show floatBits .mul .f64 p8 zz = some p9 from k12)
  have c13 := fun (t : TypeId) (W : World) => run_float_arith (P := Tryd.prog) W .add t .f64 _ _ _ (show floatBits .add .f64 p9 4586165620538955083 = some p10 from k13)
  have c14 := fun (t : TypeId) (W : World) => run_float_arith (P := Tryd.prog) W .mul t .f64 _ _ _ (show floatBits .mul .f64 b p10 = some m from k14)
  have c15 := fun (t : TypeId) (W : World) => run_float_arith (P := Tryd.prog) W .add t .f64 _ _ _ (show floatBits .add .f64 a2 m = some c from k15)
  have l0 := hT.cos 0 (by omega)
  rw [show cosW.getD 0 0 = 13666448263388469915 from rfl] at l0
  have l1 := hT.cos 1 (by omega)
  rw [show cosW.getD 1 0 = 4477121864728985349 from rfl] at l1
  have l2 := hT.cos 2 (by omega)
  rw [show cosW.getD 2 0 = 13732177093698800582 from rfl] at l2
  have l3 := hT.cos 3 (by omega)
  rw [show cosW.getD 3 0 = 4537941361668146421 from rfl] at l3
  have l4 := hT.cos 4 (by omega)
  rw [show cosW.getD 4 0 = 13787419979223748497 from rfl] at l4
  have l5 := hT.cos 5 (by omega)
  rw [show cosW.getD 5 0 = 4586165620538955083 from rfl] at l5
  clear k0 k1 k2 k3 k4 k5 k6 k7 k8 k9 k10 k11 k12 k13 k14 k15 hT
  have hcv := fun W => run_convert_float_int (P := Tryd.prog) W 22 32 .f64 .u64 _ _ (by kernel_rfl) Tryd.underlying32 hv
  have d0 := fun (t : TypeId) (W : World) => run_float_arith (P := Tryd.prog) W .mul t .f64 _ _ _ (show floatBits .mul .f64 X 4608412980311869571 = some p from hp)
  have d1 := fun (t : TypeId) (W : World) => run_float_arith (P := Tryd.prog) W .mul t .f64 _ _ _ (show floatBits .mul .f64 y 4605249456957292544 = some yA from hA)
  have d2 := fun (t : TypeId) (W : World) => run_float_arith (P := Tryd.prog) W .sub t .f64 _ _ _ (show floatBits .sub .f64 X yA = some z1 from hz1)
  have d3 := fun (t : TypeId) (W : World) => run_float_arith (P := Tryd.prog) W .mul t .f64 _ _ _ (show floatBits .mul .f64 y 4495793288086814720 = some yB from hB)
  have d4 := fun (t : TypeId) (W : World) => run_float_arith (P := Tryd.prog) W .sub t .f64 _ _ _ (show floatBits .sub .f64 z1 yB = some z2 from hz2)
  have d5 := fun (t : TypeId) (W : World) => run_float_arith (P := Tryd.prog) W .mul t .f64 _ _ _ (show floatBits .mul .f64 y 4388835458085048688 = some yC from hC)
  have d6 := fun (t : TypeId) (W : World) => run_float_arith (P := Tryd.prog) W .sub t .f64 _ _ _ (show floatBits .sub .f64 z2 yC = some z from hz)
  clear hp hA hz1 hB hz2 hC hz hv
  go_enter Tryd.func13, Tryd.ntmps13
  go_wp2_with (first
    | (go_at_call 14; (with_reducible refine HN.out.mono ?_); rintro _ _ ⟨rfl, rfl⟩)
    | (go_at_call 15; (with_reducible refine HI.out.mono ?_); rintro _ _ ⟨rfl, rfl⟩)
    | (go_at_call 17; (with_reducible refine HA.out.mono ?_); rintro _ _ ⟨rfl, rfl⟩))
  go_ret
  exact ⟨rfl, rfl⟩
theorem cosS02 (x X p y z1 z2 z c yA yB yC : Nat) (n : Int) (w : World) (HN : Hid (Calls Tryd.prog 14 #[.float .f64 x] w fun e w' => e = .returned (.bool false) ∧ w = w')) (HI : Hid (Calls Tryd.prog 15 #[.float .f64 x, .int .i64 0] w fun e w' => e = .returned (.bool false) ∧ w = w'))
    (HA : Hid (Calls Tryd.prog 17 #[.float .f64 x] w fun e w' => e = .returned (.float .f64 X) ∧ w = w')) (hT : CTabs w)
    (g : (FloatKind.f64.format.order X 4737786807993761792 == some .gt) = false) (g' : (FloatKind.f64.format.order X 4737786807993761792 == some .eq) = false) (n0 : 0 ≤ n) (n1 : n < 4294967296)
    (hp : Ieee.double.mul X 4608412980311869571 = some p) (hv : floatToIntVal .f64 p .u64 = some n) (ha : bits .and .u64 n 1 = 0) (hj : bits .and .u64 n 7 = 2)
    (hy : floatOfInt .f64 n = y) (hA : Ieee.double.mul y 4605249456957292544 = some yA) (hz1 : Ieee.double.sub X yA = some z1) (hB : Ieee.double.mul y 4495793288086814720 = some yB) (hz2 : Ieee.double.sub z1 yB = some z2)
    (hC : Ieee.double.mul y 4388835458085048688 = some yC) (hz : Ieee.double.sub z2 yC = some z) (hc : SinCh z c) :
    Calls Tryd.prog 13 #[.float .f64 x] w fun e w' => e = .returned (.float .f64 (Op.negFloat .f64 c)) ∧ w = w' := by
  obtain ⟨zz, b, p1, p2, p3, p4, p5, p6, p7, p8, p9, p10, m, k0, k1, k2, k3, k4, k5, k6, k7, k8, k9, k10, k11, k12, k13⟩ := hc
  have c0 := fun (t : TypeId) (W : World) => run_float_arith (P := Tryd.prog) W .mul t .f64 _ _ _ (show floatBits .mul .f64 z z = some zz from k0)
  have c1 := fun (t : TypeId) (W : World) => run_float_arith (P := Tryd.prog) W .mul t .f64 _ _ _ (show floatBits .mul .f64 z zz = some b from k1)
  have c2 := fun (t : TypeId) (W : World) => run_float_arith (P := Tryd.prog) W .mul t .f64 _ _ _ (show floatBits .mul .f64 4460209587652500685 zz = some p1 from k2)
  have c3 := fun (t : TypeId) (W : World) => run_float_arith (P := Tryd.prog) W .add t .f64 _ _ _ (show floatBits .add .f64 p1 13716528389658582877 = some p2 from k3)
  have c4 := fun (t : TypeId) (W : World) => run_float_arith (P := Tryd.prog) W .mul t .f64 _ _ _ (show floatBits .mul .f64 p2 zz = some p3 from k4)
  have c5 := fun (t : TypeId) (W : World) => run_float_arith (P := Tryd.prog) W .add t .f64 _ _ _ (show floatBits .add .f64 p3 4523617212962785441 = some p4 from k5)
  have c6 := fun (t : TypeId) (W : World) => run_float_arith (P := Tryd.prog) W .mul t .f64 _ _ _ (show floatBits .mul .f64 p4 zz = some p5 from k6)
  have c7 := fun (t : TypeId) (W : World) => run_float_arith (P := Tryd.prog) W .add t .f64 _ _ _ (show floatBits .add .f64 p5 13774824197404483331 = some p6 from k7)
  have c8 := fun (t : TypeId) (W : World) => run_float_arith (P := Tryd.prog) W .mul t .f64 _ _ _ (show floatBits .mul .f64 p6 zz = some p7 from k8)
  have c9 := fun (t : TypeId) (W : World) => run_float_arith (P := Tryd.prog) W .add t .f64 _ _ _ (show floatBits .add .f64 p7 4575957461383575504 = some p8 from k9)
  have c10 := fun (t : TypeId) (W : World) => run_float_arith (P := Tryd.prog) W .mul t .f64 _ _ _ (show floatBits .mul .f64 p8 zz = some p9 from k10)
  have c11 := fun (t : TypeId) (W : World) => run_float_arith (P := Tryd.prog) W .add t .f64 _ _ _ (show floatBits .add .f64 p9 13818544856648471880 = some p10 from k11)
  have c12 := fun (t : TypeId) (W : World) => run_float_arith (P := Tryd.prog) W .mul t .f64 _ _ _ (show floatBits .mul .f64 b p10 = some m from k12)
  have c13 := fun (t : TypeId) (W : World) => run_float_arith (P := Tryd.prog) W .add t .f64 _ _ _ (show floatBits .add .f64 z m = some c from k13)
  have l0 := hT.sin 0 (by omega)
  rw [show sinW.getD 0 0 = 4460209587652500685 from rfl] at l0
  have l1 := hT.sin 1 (by omega)
  rw [show sinW.getD 1 0 = 13716528389658582877 from rfl] at l1
  have l2 := hT.sin 2 (by omega)
  rw [show sinW.getD 2 0 = 4523617212962785441 from rfl] at l2
  have l3 := hT.sin 3 (by omega)
  rw [show sinW.getD 3 0 = 13774824197404483331 from rfl] at l3
  have l4 := hT.sin 4 (by omega)
  rw [show sinW.getD 4 0 = 4575957461383575504 from rfl] at l4
  have l5 := hT.sin 5 (by omega)
  rw [show sinW.getD 5 0 = 13818544856648471880 from rfl] at l5
  clear k0 k1 k2 k3 k4 k5 k6 k7 k8 k9 k10 k11 k12 k13 hT
  have hcv := fun W => run_convert_float_int (P := Tryd.prog) W 22 32 .f64 .u64 _ _ (by kernel_rfl) Tryd.underlying32 hv
  have d0 := fun (t : TypeId) (W : World) => run_float_arith (P := Tryd.prog) W .mul t .f64 _ _ _ (show floatBits .mul .f64 X 4608412980311869571 = some p from hp)
  have d1 := fun (t : TypeId) (W : World) => run_float_arith (P := Tryd.prog) W .mul t .f64 _ _ _ (show floatBits .mul .f64 y 4605249456957292544 = some yA from hA)
  have d2 := fun (t : TypeId) (W : World) => run_float_arith (P := Tryd.prog) W .sub t .f64 _ _ _ (show floatBits .sub .f64 X yA = some z1 from hz1)
  have d3 := fun (t : TypeId) (W : World) => run_float_arith (P := Tryd.prog) W .mul t .f64 _ _ _ (show floatBits .mul .f64 y 4495793288086814720 = some yB from hB)
  have d4 := fun (t : TypeId) (W : World) => run_float_arith (P := Tryd.prog) W .sub t .f64 _ _ _ (show floatBits .sub .f64 z1 yB = some z2 from hz2)
  have d5 := fun (t : TypeId) (W : World) => run_float_arith (P := Tryd.prog) W .mul t .f64 _ _ _ (show floatBits .mul .f64 y 4388835458085048688 = some yC from hC)
  have d6 := fun (t : TypeId) (W : World) => run_float_arith (P := Tryd.prog) W .sub t .f64 _ _ _ (show floatBits .sub .f64 z2 yC = some z from hz)
  clear hp hA hz1 hB hz2 hC hz hv
  go_enter Tryd.func13, Tryd.ntmps13
  go_wp2_with (first
    | (go_at_call 14; (with_reducible refine HN.out.mono ?_); rintro _ _ ⟨rfl, rfl⟩)
    | (go_at_call 15; (with_reducible refine HI.out.mono ?_); rintro _ _ ⟨rfl, rfl⟩)
    | (go_at_call 17; (with_reducible refine HA.out.mono ?_); rintro _ _ ⟨rfl, rfl⟩))
  go_ret
  exact ⟨rfl, rfl⟩
theorem cosS04 (x X p y z1 z2 z c yA yB yC : Nat) (n : Int) (w : World) (HN : Hid (Calls Tryd.prog 14 #[.float .f64 x] w fun e w' => e = .returned (.bool false) ∧ w = w')) (HI : Hid (Calls Tryd.prog 15 #[.float .f64 x, .int .i64 0] w fun e w' => e = .returned (.bool false) ∧ w = w'))
    (HA : Hid (Calls Tryd.prog 17 #[.float .f64 x] w fun e w' => e = .returned (.float .f64 X) ∧ w = w')) (hT : CTabs w)
    (g : (FloatKind.f64.format.order X 4737786807993761792 == some .gt) = false) (g' : (FloatKind.f64.format.order X 4737786807993761792 == some .eq) = false) (n0 : 0 ≤ n) (n1 : n < 4294967296)
    (hp : Ieee.double.mul X 4608412980311869571 = some p) (hv : floatToIntVal .f64 p .u64 = some n) (ha : bits .and .u64 n 1 = 0) (hj : bits .and .u64 n 7 = 4)
    (hy : floatOfInt .f64 n = y) (hA : Ieee.double.mul y 4605249456957292544 = some yA) (hz1 : Ieee.double.sub X yA = some z1) (hB : Ieee.double.mul y 4495793288086814720 = some yB) (hz2 : Ieee.double.sub z1 yB = some z2)
    (hC : Ieee.double.mul y 4388835458085048688 = some yC) (hz : Ieee.double.sub z2 yC = some z) (hc : CosCh z c) :
    Calls Tryd.prog 13 #[.float .f64 x] w fun e w' => e = .returned (.float .f64 (Op.negFloat .f64 c)) ∧ w = w' := by
  obtain ⟨zz, a1, a2, b, p1, p2, p3, p4, p5, p6, p7, p8, p9, p10, m, k0, k1, k2, k3, k4, k5, k6, k7, k8, k9, k10, k11, k12, k13, k14, k15⟩ := hc
  have c0 := fun (t : TypeId) (W : World) => run_float_arith (P := Tryd.prog) W .mul t .f64 _ _ _ (show floatBits .mul .f64 z z = some zz from k0)
  have c1 := fun (t : TypeId) (W : World) => run_float_arith (P := Tryd.prog) W .mul t .f64 _ _ _ (show floatBits .mul .f64 4602678819172646912 zz = some a1 from k1)
  have c2 := fun (t : TypeId) (W : World) => run_float_arith (P := Tryd.prog) W .sub t .f64 _ _ _ (show floatBits .sub .f64 4607182418800017408 a1 = some a2 from k2)
  have c3 := fun (t : TypeId) (W : World) => run_float_arith (P := Tryd.prog) W .mul t .f64 _ _ _ (show floatBits .mul .f64 zz zz = some b from k3)
  have c4 := fun (t : TypeId) (W : World) => run_float_arith (P := Tryd.prog) W .mul t .f64 _ _ _ (show floatBits .mul .f64 13666448263388469915 zz = some p1 from k4)
  have c5 := fun (t : TypeId) (W : World) => run_float_arith (P := Tryd.prog) W .add t .f64 _ _ _ (show floatBits .add .f64 p1 4477121864728985349 = some p2 from k5)
  have c6 := fun (t : TypeId) (W : World) => run_float_arith (P := Tryd.prog) W .mul t .f64 _ _ _ (show floatBits .mul .f64 p2 zz = some p3 from k6)
  have c7 := fun (t : TypeId) (W : World) => run_float_arith (P := Tryd.prog) W .add t .f64 _ _ _ (show floatBits .add .f64 p3 13732177093698800582 = some p4 from k7)
  have c8 := fun (t : TypeId) (W : World) => run_float_arith (P := Tryd.prog) W .mul t .f64 _ _ _ (show floatBits .mul .f64 p4 zz = some p5 from k8)
  have c9 := fun (t : TypeId) (W : World) => run_float_arith (P := Tryd.prog) W .add t .f64 _ _ _ (show floatBits .add .f64 p5 4537941361668146421 = some p6 from k9)
  have c10 := fun (t : TypeId) (W : World) => run_float_arith (P := Tryd.prog) W .mul t .f64 _ _ _ (show floatBits .mul .f64 p6 zz = some p7 from k10)
  have c11 := fun (t : TypeId) (W : World) => run_float_arith (P := Tryd.prog) W .add t .f64 _ _ _ (show floatBits .add .f64 p7 13787419979223748497 = some p8 from k11)
  have c12 := fun (t : TypeId) (W : World) => run_float_arith (P := Tryd.prog) W .mul t .f64 _ _ _ (show floatBits .mul .f64 p8 zz = some p9 from k12)
  have c13 := fun (t : TypeId) (W : World) => run_float_arith (P := Tryd.prog) W .add t .f64 _ _ _ (show floatBits .add .f64 p9 4586165620538955083 = some p10 from k13)
  have c14 := fun (t : TypeId) (W : World) => run_float_arith (P := Tryd.prog) W .mul t .f64 _ _ _ (show floatBits .mul .f64 b p10 = some m from k14)
  have c15 := fun (t : TypeId) (W : World) => run_float_arith (P := Tryd.prog) W .add t .f64 _ _ _ (show floatBits .add .f64 a2 m = some c from k15)
  have l0 := hT.cos 0 (by omega)
  rw [show cosW.getD 0 0 = 13666448263388469915 from rfl] at l0
  have l1 := hT.cos 1 (by omega)
  rw [show cosW.getD 1 0 = 4477121864728985349 from rfl] at l1
  have l2 := hT.cos 2 (by omega)
  rw [show cosW.getD 2 0 = 13732177093698800582 from rfl] at l2
  have l3 := hT.cos 3 (by omega)
  rw [show cosW.getD 3 0 = 4537941361668146421 from rfl] at l3
  have l4 := hT.cos 4 (by omega)
  rw [show cosW.getD 4 0 = 13787419979223748497 from rfl] at l4
  have l5 := hT.cos 5 (by omega)
  rw [show cosW.getD 5 0 = 4586165620538955083 from rfl] at l5
  clear k0 k1 k2 k3 k4 k5 k6 k7 k8 k9 k10 k11 k12 k13 k14 k15 hT
  have hcv := fun W => run_convert_float_int (P := Tryd.prog) W 22 32 .f64 .u64 _ _ (by kernel_rfl) Tryd.underlying32 hv
  have d0 := fun (t : TypeId) (W : World) => run_float_arith (P := Tryd.prog) W .mul t .f64 _ _ _ (show floatBits .mul .f64 X 4608412980311869571 = some p from hp)
  have d1 := fun (t : TypeId) (W : World) => run_float_arith (P := Tryd.prog) W .mul t .f64 _ _ _ (show floatBits .mul .f64 y 4605249456957292544 = some yA from hA)
  have d2 := fun (t : TypeId) (W : World) => run_float_arith (P := Tryd.prog) W .sub t .f64 _ _ _ (show floatBits .sub .f64 X yA = some z1 from hz1)
  have d3 := fun (t : TypeId) (W : World) => run_float_arith (P := Tryd.prog) W .mul t .f64 _ _ _ (show floatBits .mul .f64 y 4495793288086814720 = some yB from hB)
  have d4 := fun (t : TypeId) (W : World) => run_float_arith (P := Tryd.prog) W .sub t .f64 _ _ _ (show floatBits .sub .f64 z1 yB = some z2 from hz2)
  have d5 := fun (t : TypeId) (W : World) => run_float_arith (P := Tryd.prog) W .mul t .f64 _ _ _ (show floatBits .mul .f64 y 4388835458085048688 = some yC from hC)
  have d6 := fun (t : TypeId) (W : World) => run_float_arith (P := Tryd.prog) W .sub t .f64 _ _ _ (show floatBits .sub .f64 z2 yC = some z from hz)
  clear hp hA hz1 hB hz2 hC hz hv
  go_enter Tryd.func13, Tryd.ntmps13
  go_wp2_with (first
    | (go_at_call 14; (with_reducible refine HN.out.mono ?_); rintro _ _ ⟨rfl, rfl⟩)
    | (go_at_call 15; (with_reducible refine HI.out.mono ?_); rintro _ _ ⟨rfl, rfl⟩)
    | (go_at_call 17; (with_reducible refine HA.out.mono ?_); rintro _ _ ⟨rfl, rfl⟩))
  go_ret
  exact ⟨rfl, rfl⟩
theorem cosS06 (x X p y z1 z2 z c yA yB yC : Nat) (n : Int) (w : World) (HN : Hid (Calls Tryd.prog 14 #[.float .f64 x] w fun e w' => e = .returned (.bool false) ∧ w = w')) (HI : Hid (Calls Tryd.prog 15 #[.float .f64 x, .int .i64 0] w fun e w' => e = .returned (.bool false) ∧ w = w'))
    (HA : Hid (Calls Tryd.prog 17 #[.float .f64 x] w fun e w' => e = .returned (.float .f64 X) ∧ w = w')) (hT : CTabs w)
    (g : (FloatKind.f64.format.order X 4737786807993761792 == some .gt) = false) (g' : (FloatKind.f64.format.order X 4737786807993761792 == some .eq) = false) (n0 : 0 ≤ n) (n1 : n < 4294967296)
    (hp : Ieee.double.mul X 4608412980311869571 = some p) (hv : floatToIntVal .f64 p .u64 = some n) (ha : bits .and .u64 n 1 = 0) (hj : bits .and .u64 n 7 = 6)
    (hy : floatOfInt .f64 n = y) (hA : Ieee.double.mul y 4605249456957292544 = some yA) (hz1 : Ieee.double.sub X yA = some z1) (hB : Ieee.double.mul y 4495793288086814720 = some yB) (hz2 : Ieee.double.sub z1 yB = some z2)
    (hC : Ieee.double.mul y 4388835458085048688 = some yC) (hz : Ieee.double.sub z2 yC = some z) (hc : SinCh z c) :
    Calls Tryd.prog 13 #[.float .f64 x] w fun e w' => e = .returned (.float .f64 (c)) ∧ w = w' := by
  obtain ⟨zz, b, p1, p2, p3, p4, p5, p6, p7, p8, p9, p10, m, k0, k1, k2, k3, k4, k5, k6, k7, k8, k9, k10, k11, k12, k13⟩ := hc
  have c0 := fun (t : TypeId) (W : World) => run_float_arith (P := Tryd.prog) W .mul t .f64 _ _ _ (show floatBits .mul .f64 z z = some zz from k0)
  have c1 := fun (t : TypeId) (W : World) => run_float_arith (P := Tryd.prog) W .mul t .f64 _ _ _ (show floatBits .mul .f64 z zz = some b from k1)
  have c2 := fun (t : TypeId) (W : World) => run_float_arith (P := Tryd.prog) W .mul t .f64 _ _ _ (show floatBits .mul .f64 4460209587652500685 zz = some p1 from k2)
  have c3 := fun (t : TypeId) (W : World) => run_float_arith (P := Tryd.prog) W .add t .f64 _ _ _ (show floatBits .add .f64 p1 13716528389658582877 = some p2 from k3)
  have c4 := fun (t : TypeId) (W : World) => run_float_arith (P := Tryd.prog) W .mul t .f64 _ _ _ (show floatBits .mul .f64 p2 zz = some p3 from k4)
  have c5 := fun (t : TypeId) (W : World) => run_float_arith (P := Tryd.prog) W .add t .f64 _ _ _ (show floatBits .add .f64 p3 4523617212962785441 = some p4 from k5)
  have c6 := fun (t : TypeId) (W : World) => run_float_arith (P := Tryd.prog) W .mul t .f64 _ _ _ (show floatBits .mul .f64 p4 zz = some p5 from k6)
  have c7 := fun (t : TypeId) (W : World) => run_float_arith (P := Tryd.prog) W .add t .f64 _ _ _ (show floatBits .add .f64 p5 13774824197404483331 = some p6 from k7)
  have c8 := fun (t : TypeId) (W : World) => run_float_arith (P := Tryd.prog) W .mul t .f64 _ _ _ (show floatBits .mul .f64 p6 zz = some p7 from k8)
  have c9 := fun (t : TypeId) (W : World) => run_float_arith (P := Tryd.prog) W .add t .f64 _ _ _ (show floatBits .add .f64 p7 4575957461383575504 = some p8 from k9)
  have c10 := fun (t : TypeId) (W : World) => run_float_arith (P := Tryd.prog) W .mul t .f64 _ _ _ (show floatBits .mul .f64 p8 zz = some p9 from k10)
  have c11 := fun (t : TypeId) (W : World) => run_float_arith (P := Tryd.prog) W .add t .f64 _ _ _ (show floatBits .add .f64 p9 13818544856648471880 = some p10 from k11)
  have c12 := fun (t : TypeId) (W : World) => run_float_arith (P := Tryd.prog) W .mul t .f64 _ _ _ (show floatBits .mul .f64 b p10 = some m from k12)
  have c13 := fun (t : TypeId) (W : World) => run_float_arith (P := Tryd.prog) W .add t .f64 _ _ _ (show floatBits .add .f64 z m = some c from k13)
  have l0 := hT.sin 0 (by omega)
  rw [show sinW.getD 0 0 = 4460209587652500685 from rfl] at l0
  have l1 := hT.sin 1 (by omega)
  rw [show sinW.getD 1 0 = 13716528389658582877 from rfl] at l1
  have l2 := hT.sin 2 (by omega)
  rw [show sinW.getD 2 0 = 4523617212962785441 from rfl] at l2
  have l3 := hT.sin 3 (by omega)
  rw [show sinW.getD 3 0 = 13774824197404483331 from rfl] at l3
  have l4 := hT.sin 4 (by omega)
  rw [show sinW.getD 4 0 = 4575957461383575504 from rfl] at l4
  have l5 := hT.sin 5 (by omega)
  rw [show sinW.getD 5 0 = 13818544856648471880 from rfl] at l5
  clear k0 k1 k2 k3 k4 k5 k6 k7 k8 k9 k10 k11 k12 k13 hT
  have hcv := fun W => run_convert_float_int (P := Tryd.prog) W 22 32 .f64 .u64 _ _ (by kernel_rfl) Tryd.underlying32 hv
  have d0 := fun (t : TypeId) (W : World) => run_float_arith (P := Tryd.prog) W .mul t .f64 _ _ _ (show floatBits .mul .f64 X 4608412980311869571 = some p from hp)
  have d1 := fun (t : TypeId) (W : World) => run_float_arith (P := Tryd.prog) W .mul t .f64 _ _ _ (show floatBits .mul .f64 y 4605249456957292544 = some yA from hA)
  have d2 := fun (t : TypeId) (W : World) => run_float_arith (P := Tryd.prog) W .sub t .f64 _ _ _ (show floatBits .sub .f64 X yA = some z1 from hz1)
  have d3 := fun (t : TypeId) (W : World) => run_float_arith (P := Tryd.prog) W .mul t .f64 _ _ _ (show floatBits .mul .f64 y 4495793288086814720 = some yB from hB)
  have d4 := fun (t : TypeId) (W : World) => run_float_arith (P := Tryd.prog) W .sub t .f64 _ _ _ (show floatBits .sub .f64 z1 yB = some z2 from hz2)
  have d5 := fun (t : TypeId) (W : World) => run_float_arith (P := Tryd.prog) W .mul t .f64 _ _ _ (show floatBits .mul .f64 y 4388835458085048688 = some yC from hC)
  have d6 := fun (t : TypeId) (W : World) => run_float_arith (P := Tryd.prog) W .sub t .f64 _ _ _ (show floatBits .sub .f64 z2 yC = some z from hz)
  clear hp hA hz1 hB hz2 hC hz hv
  go_enter Tryd.func13, Tryd.ntmps13
  go_wp2_with (first
    | (go_at_call 14; (with_reducible refine HN.out.mono ?_); rintro _ _ ⟨rfl, rfl⟩)
    | (go_at_call 15; (with_reducible refine HI.out.mono ?_); rintro _ _ ⟨rfl, rfl⟩)
    | (go_at_call 17; (with_reducible refine HA.out.mono ?_); rintro _ _ ⟨rfl, rfl⟩))
  go_ret
  exact ⟨rfl, rfl⟩
theorem cosS10 (x X p y z1 z2 z c yA yB yC : Nat) (n : Int) (w : World) (HN : Hid (Calls Tryd.prog 14 #[.float .f64 x] w fun e w' => e = .returned (.bool false) ∧ w = w')) (HI : Hid (Calls Tryd.prog 15 #[.float .f64 x, .int .i64 0] w fun e w' => e = .returned (.bool false) ∧ w = w'))
    (HA : Hid (Calls Tryd.prog 17 #[.float .f64 x] w fun e w' => e = .returned (.float .f64 X) ∧ w = w')) (hT : CTabs w)
    (g : (FloatKind.f64.format.order X 4737786807993761792 == some .gt) = false) (g' : (FloatKind.f64.format.order X 4737786807993761792 == some .eq) = false) (n0 : 0 ≤ n) (n1 : n < 4294967296)
    (hp : Ieee.double.mul X 4608412980311869571 = some p) (hv : floatToIntVal .f64 p .u64 = some n) (ha : bits .and .u64 n 1 = 1) (hj : bits .and .u64 (n + 1) 7 = 0)
    (hy : Ieee.double.add (floatOfInt .f64 n) 4607182418800017408 = some y) (hA : Ieee.double.mul y 4605249456957292544 = some yA) (hz1 : Ieee.double.sub X yA = some z1) (hB : Ieee.double.mul y 4495793288086814720 = some yB) (hz2 : Ieee.double.sub z1 yB = some z2)
    (hC : Ieee.double.mul y 4388835458085048688 = some yC) (hz : Ieee.double.sub z2 yC = some z) (hc : CosCh z c) :
    Calls Tryd.prog 13 #[.float .f64 x] w fun e w' => e = .returned (.float .f64 (c)) ∧ w = w' := by
  obtain ⟨zz, a1, a2, b, p1, p2, p3, p4, p5, p6, p7, p8, p9, p10, m, k0, k1, k2, k3, k4, k5, k6, k7, k8, k9, k10, k11, k12, k13, k14, k15⟩ := hc
  have c0 := fun (t : TypeId) (W : World) => run_float_arith (P := Tryd.prog) W .mul t .f64 _ _ _ (show floatBits .mul .f64 z z = some zz from k0)
  have c1 := fun (t : TypeId) (W : World) => run_float_arith (P := Tryd.prog) W .mul t .f64 _ _ _ (show floatBits .mul .f64 4602678819172646912 zz = some a1 from k1)
  have c2 := fun (t : TypeId) (W : World) => run_float_arith (P := Tryd.prog) W .sub t .f64 _ _ _ (show floatBits .sub .f64 4607182418800017408 a1 = some a2 from k2)
  have c3 := fun (t : TypeId) (W : World) => run_float_arith (P := Tryd.prog) W .mul t .f64 _ _ _ (show floatBits .mul .f64 zz zz = some b from k3)
  have c4 := fun (t : TypeId) (W : World) => run_float_arith (P := Tryd.prog) W .mul t .f64 _ _ _ (show floatBits .mul .f64 13666448263388469915 zz = some p1 from k4)
  have c5 := fun (t : TypeId) (W : World) => run_float_arith (P := Tryd.prog) W .add t .f64 _ _ _ (show floatBits .add .f64 p1 4477121864728985349 = some p2 from k5)
  have c6 := fun (t : TypeId) (W : World) => run_float_arith (P := Tryd.prog) W .mul t .f64 _ _ _ (show floatBits .mul .f64 p2 zz = some p3 from k6)
  have c7 := fun (t : TypeId) (W : World) => run_float_arith (P := Tryd.prog) W .add t .f64 _ _ _ (show floatBits .add .f64 p3 13732177093698800582 = some p4 from k7)
  have c8 := fun (t : TypeId) (W : World) => run_float_arith (P := Tryd.prog) W .mul t .f64 _ _ _ (show floatBits .mul .f64 p4 zz = some p5 from k8)
  have c9 := fun (t : TypeId) (W : World) => run_float_arith (P := Tryd.prog) W .add t .f64 _ _ _ (show floatBits .add .f64 p5 4537941361668146421 = some p6 from k9)
  have c10 := fun (t : TypeId) (W : World) => run_float_arith (P := Tryd.prog) W .mul t .f64 _ _ _ (show floatBits .mul .f64 p6 zz = some p7 from k10)
  have c11 := fun (t : TypeId) (W : World) => run_float_arith (P := Tryd.prog) W .add t .f64 _ _ _ (show floatBits .add .f64 p7 13787419979223748497 = some p8 from k11)
  have c12 := fun (t : TypeId) (W : World) => run_float_arith (P := Tryd.prog) W .mul t .f64 _ _ _ (show floatBits .mul .f64 p8 zz = some p9 from k12)
  have c13 := fun (t : TypeId) (W : World) => run_float_arith (P := Tryd.prog) W .add t .f64 _ _ _ (show floatBits .add .f64 p9 4586165620538955083 = some p10 from k13)
  have c14 := fun (t : TypeId) (W : World) => run_float_arith (P := Tryd.prog) W .mul t .f64 _ _ _ (show floatBits .mul .f64 b p10 = some m from k14)
  have c15 := fun (t : TypeId) (W : World) => run_float_arith (P := Tryd.prog) W .add t .f64 _ _ _ (show floatBits .add .f64 a2 m = some c from k15)
  have l0 := hT.cos 0 (by omega)
  rw [show cosW.getD 0 0 = 13666448263388469915 from rfl] at l0
  have l1 := hT.cos 1 (by omega)
  rw [show cosW.getD 1 0 = 4477121864728985349 from rfl] at l1
  have l2 := hT.cos 2 (by omega)
  rw [show cosW.getD 2 0 = 13732177093698800582 from rfl] at l2
  have l3 := hT.cos 3 (by omega)
  rw [show cosW.getD 3 0 = 4537941361668146421 from rfl] at l3
  have l4 := hT.cos 4 (by omega)
  rw [show cosW.getD 4 0 = 13787419979223748497 from rfl] at l4
  have l5 := hT.cos 5 (by omega)
  rw [show cosW.getD 5 0 = 4586165620538955083 from rfl] at l5
  clear k0 k1 k2 k3 k4 k5 k6 k7 k8 k9 k10 k11 k12 k13 k14 k15 hT
  have hcv := fun W => run_convert_float_int (P := Tryd.prog) W 22 32 .f64 .u64 _ _ (by kernel_rfl) Tryd.underlying32 hv
  have d0 := fun (t : TypeId) (W : World) => run_float_arith (P := Tryd.prog) W .mul t .f64 _ _ _ (show floatBits .mul .f64 X 4608412980311869571 = some p from hp)
  have d1 := fun (t : TypeId) (W : World) => run_float_arith (P := Tryd.prog) W .mul t .f64 _ _ _ (show floatBits .mul .f64 y 4605249456957292544 = some yA from hA)
  have d2 := fun (t : TypeId) (W : World) => run_float_arith (P := Tryd.prog) W .sub t .f64 _ _ _ (show floatBits .sub .f64 X yA = some z1 from hz1)
  have d3 := fun (t : TypeId) (W : World) => run_float_arith (P := Tryd.prog) W .mul t .f64 _ _ _ (show floatBits .mul .f64 y 4495793288086814720 = some yB from hB)
  have d4 := fun (t : TypeId) (W : World) => run_float_arith (P := Tryd.prog) W .sub t .f64 _ _ _ (show floatBits .sub .f64 z1 yB = some z2 from hz2)
  have d5 := fun (t : TypeId) (W : World) => run_float_arith (P := Tryd.prog) W .mul t .f64 _ _ _ (show floatBits .mul .f64 y 4388835458085048688 = some yC from hC)
  have d6 := fun (t : TypeId) (W : World) => run_float_arith (P := Tryd.prog) W .sub t .f64 _ _ _ (show floatBits .sub .f64 z2 yC = some z from hz)
  have d7 := fun (t : TypeId) (W : World) => run_float_arith (P := Tryd.prog) W .add t .f64 _ _ _ (show floatBits .add .f64 (floatOfInt .f64 n) 4607182418800017408 = some y from hy)
  clear hp hA hz1 hB hz2 hC hz hy hv
  go_enter Tryd.func13, Tryd.ntmps13
  go_wp2_with (first
    | (go_at_call 14; (with_reducible refine HN.out.mono ?_); rintro _ _ ⟨rfl, rfl⟩)
    | (go_at_call 15; (with_reducible refine HI.out.mono ?_); rintro _ _ ⟨rfl, rfl⟩)
    | (go_at_call 17; (with_reducible refine HA.out.mono ?_); rintro _ _ ⟨rfl, rfl⟩))
  go_ret
  exact ⟨rfl, rfl⟩
theorem cosS12 (x X p y z1 z2 z c yA yB yC : Nat) (n : Int) (w : World) (HN : Hid (Calls Tryd.prog 14 #[.float .f64 x] w fun e w' => e = .returned (.bool false) ∧ w = w')) (HI : Hid (Calls Tryd.prog 15 #[.float .f64 x, .int .i64 0] w fun e w' => e = .returned (.bool false) ∧ w = w'))
    (HA : Hid (Calls Tryd.prog 17 #[.float .f64 x] w fun e w' => e = .returned (.float .f64 X) ∧ w = w')) (hT : CTabs w)
    (g : (FloatKind.f64.format.order X 4737786807993761792 == some .gt) = false) (g' : (FloatKind.f64.format.order X 4737786807993761792 == some .eq) = false) (n0 : 0 ≤ n) (n1 : n < 4294967296)
    (hp : Ieee.double.mul X 4608412980311869571 = some p) (hv : floatToIntVal .f64 p .u64 = some n) (ha : bits .and .u64 n 1 = 1) (hj : bits .and .u64 (n + 1) 7 = 2)
    (hy : Ieee.double.add (floatOfInt .f64 n) 4607182418800017408 = some y) (hA : Ieee.double.mul y 4605249456957292544 = some yA) (hz1 : Ieee.double.sub X yA = some z1) (hB : Ieee.double.mul y 4495793288086814720 = some yB) (hz2 : Ieee.double.sub z1 yB = some z2)
    (hC : Ieee.double.mul y 4388835458085048688 = some yC) (hz : Ieee.double.sub z2 yC = some z) (hc : SinCh z c) :
    Calls Tryd.prog 13 #[.float .f64 x] w fun e w' => e = .returned (.float .f64 (Op.negFloat .f64 c)) ∧ w = w' := by
  obtain ⟨zz, b, p1, p2, p3, p4, p5, p6, p7, p8, p9, p10, m, k0, k1, k2, k3, k4, k5, k6, k7, k8, k9, k10, k11, k12, k13⟩ := hc
  have c0 := fun (t : TypeId) (W : World) => run_float_arith (P := Tryd.prog) W .mul t .f64 _ _ _ (show floatBits .mul .f64 z z = some zz from k0)
  have c1 := fun (t : TypeId) (W : World) => run_float_arith (P := Tryd.prog) W .mul t .f64 _ _ _ (show floatBits .mul .f64 z zz = some b from k1)
  have c2 := fun (t : TypeId) (W : World) => run_float_arith (P := Tryd.prog) W .mul t .f64 _ _ _ (show floatBits .mul .f64 4460209587652500685 zz = some p1 from k2)
  have c3 := fun (t : TypeId) (W : World) => run_float_arith (P := Tryd.prog) W .add t .f64 _ _ _ (show floatBits .add .f64 p1 13716528389658582877 = some p2 from k3)
  have c4 := fun (t : TypeId) (W : World) => run_float_arith (P := Tryd.prog) W .mul t .f64 _ _ _ (show floatBits .mul .f64 p2 zz = some p3 from k4)
  have c5 := fun (t : TypeId) (W : World) => run_float_arith (P := Tryd.prog) W .add t .f64 _ _ _ (show floatBits .add .f64 p3 4523617212962785441 = some p4 from k5)
  have c6 := fun (t : TypeId) (W : World) => run_float_arith (P := Tryd.prog) W .mul t .f64 _ _ _ (show floatBits .mul .f64 p4 zz = some p5 from k6)
  have c7 := fun (t : TypeId) (W : World) => run_float_arith (P := Tryd.prog) W .add t .f64 _ _ _ (show floatBits .add .f64 p5 13774824197404483331 = some p6 from k7)
  have c8 := fun (t : TypeId) (W : World) => run_float_arith (P := Tryd.prog) W .mul t .f64 _ _ _ (show floatBits .mul .f64 p6 zz = some p7 from k8)
  have c9 := fun (t : TypeId) (W : World) => run_float_arith (P := Tryd.prog) W .add t .f64 _ _ _ (show floatBits .add .f64 p7 4575957461383575504 = some p8 from k9)
  have c10 := fun (t : TypeId) (W : World) => run_float_arith (P := Tryd.prog) W .mul t .f64 _ _ _ (show floatBits .mul .f64 p8 zz = some p9 from k10)
  have c11 := fun (t : TypeId) (W : World) => run_float_arith (P := Tryd.prog) W .add t .f64 _ _ _ (show floatBits .add .f64 p9 13818544856648471880 = some p10 from k11)
  have c12 := fun (t : TypeId) (W : World) => run_float_arith (P := Tryd.prog) W .mul t .f64 _ _ _ (show floatBits .mul .f64 b p10 = some m from k12)
  have c13 := fun (t : TypeId) (W : World) => run_float_arith (P := Tryd.prog) W .add t .f64 _ _ _ (show floatBits .add .f64 z m = some c from k13)
  have l0 := hT.sin 0 (by omega)
  rw [show sinW.getD 0 0 = 4460209587652500685 from rfl] at l0
  have l1 := hT.sin 1 (by omega)
  rw [show sinW.getD 1 0 = 13716528389658582877 from rfl] at l1
  have l2 := hT.sin 2 (by omega)
  rw [show sinW.getD 2 0 = 4523617212962785441 from rfl] at l2
  have l3 := hT.sin 3 (by omega)
  rw [show sinW.getD 3 0 = 13774824197404483331 from rfl] at l3
  have l4 := hT.sin 4 (by omega)
  rw [show sinW.getD 4 0 = 4575957461383575504 from rfl] at l4
  have l5 := hT.sin 5 (by omega)
  rw [show sinW.getD 5 0 = 13818544856648471880 from rfl] at l5
  clear k0 k1 k2 k3 k4 k5 k6 k7 k8 k9 k10 k11 k12 k13 hT
  have hcv := fun W => run_convert_float_int (P := Tryd.prog) W 22 32 .f64 .u64 _ _ (by kernel_rfl) Tryd.underlying32 hv
  have d0 := fun (t : TypeId) (W : World) => run_float_arith (P := Tryd.prog) W .mul t .f64 _ _ _ (show floatBits .mul .f64 X 4608412980311869571 = some p from hp)
  have d1 := fun (t : TypeId) (W : World) => run_float_arith (P := Tryd.prog) W .mul t .f64 _ _ _ (show floatBits .mul .f64 y 4605249456957292544 = some yA from hA)
  have d2 := fun (t : TypeId) (W : World) => run_float_arith (P := Tryd.prog) W .sub t .f64 _ _ _ (show floatBits .sub .f64 X yA = some z1 from hz1)
  have d3 := fun (t : TypeId) (W : World) => run_float_arith (P := Tryd.prog) W .mul t .f64 _ _ _ (show floatBits .mul .f64 y 4495793288086814720 = some yB from hB)
  have d4 := fun (t : TypeId) (W : World) => run_float_arith (P := Tryd.prog) W .sub t .f64 _ _ _ (show floatBits .sub .f64 z1 yB = some z2 from hz2)
  have d5 := fun (t : TypeId) (W : World) => run_float_arith (P := Tryd.prog) W .mul t .f64 _ _ _ (show floatBits .mul .f64 y 4388835458085048688 = some yC from hC)
  have d6 := fun (t : TypeId) (W : World) => run_float_arith (P := Tryd.prog) W .sub t .f64 _ _ _ (show floatBits .sub .f64 z2 yC = some z from hz)
  have d7 := fun (t : TypeId) (W : World) => run_float_arith (P := Tryd.prog) W .add t .f64 _ _ _ (show floatBits .add .f64 (floatOfInt .f64 n) 4607182418800017408 = some y from hy)
  clear hp hA hz1 hB hz2 hC hz hy hv
  go_enter Tryd.func13, Tryd.ntmps13
  go_wp2_with (first
    | (go_at_call 14; (with_reducible refine HN.out.mono ?_); rintro _ _ ⟨rfl, rfl⟩)
    | (go_at_call 15; (with_reducible refine HI.out.mono ?_); rintro _ _ ⟨rfl, rfl⟩)
    | (go_at_call 17; (with_reducible refine HA.out.mono ?_); rintro _ _ ⟨rfl, rfl⟩))
  go_ret
  exact ⟨rfl, rfl⟩
theorem cosS14 (x X p y z1 z2 z c yA yB yC : Nat) (n : Int) (w : World) (HN : Hid (Calls Tryd.prog 14 #[.float .f64 x] w fun e w' => e = .returned (.bool false) ∧ w = w')) (HI : Hid (Calls Tryd.prog 15 #[.float .f64 x, .int .i64 0] w fun e w' => e = .returned (.bool false) ∧ w = w'))
    (HA : Hid (Calls Tryd.prog 17 #[.float .f64 x] w fun e w' => e = .returned (.float .f64 X) ∧ w = w')) (hT : CTabs w)
    (g : (FloatKind.f64.format.order X 4737786807993761792 == some .gt) = false) (g' : (FloatKind.f64.format.order X 4737786807993761792 == some .eq) = false) (n0 : 0 ≤ n) (n1 : n < 4294967296)
    (hp : Ieee.double.mul X 4608412980311869571 = some p) (hv : floatToIntVal .f64 p .u64 = some n) (ha : bits .and .u64 n 1 = 1) (hj : bits .and .u64 (n + 1) 7 = 4)
    (hy : Ieee.double.add (floatOfInt .f64 n) 4607182418800017408 = some y) (hA : Ieee.double.mul y 4605249456957292544 = some yA) (hz1 : Ieee.double.sub X yA = some z1) (hB : Ieee.double.mul y 4495793288086814720 = some yB) (hz2 : Ieee.double.sub z1 yB = some z2)
    (hC : Ieee.double.mul y 4388835458085048688 = some yC) (hz : Ieee.double.sub z2 yC = some z) (hc : CosCh z c) :
    Calls Tryd.prog 13 #[.float .f64 x] w fun e w' => e = .returned (.float .f64 (Op.negFloat .f64 c)) ∧ w = w' := by
  obtain ⟨zz, a1, a2, b, p1, p2, p3, p4, p5, p6, p7, p8, p9, p10, m, k0, k1, k2, k3, k4, k5, k6, k7, k8, k9, k10, k11, k12, k13, k14, k15⟩ := hc
  have c0 := fun (t : TypeId) (W : World) => run_float_arith (P := Tryd.prog) W .mul t .f64 _ _ _ (show floatBits .mul .f64 z z = some zz from k0)
  have c1 := fun (t : TypeId) (W : World) => run_float_arith (P := Tryd.prog) W .mul t .f64 _ _ _ (show floatBits .mul .f64 4602678819172646912 zz = some a1 from k1)
  have c2 := fun (t : TypeId) (W : World) => run_float_arith (P := Tryd.prog) W .sub t .f64 _ _ _ (show floatBits .sub .f64 4607182418800017408 a1 = some a2 from k2)
  have c3 := fun (t : TypeId) (W : World) => run_float_arith (P := Tryd.prog) W .mul t .f64 _ _ _ (show floatBits .mul .f64 zz zz = some b from k3)
  have c4 := fun (t : TypeId) (W : World) => run_float_arith (P := Tryd.prog) W .mul t .f64 _ _ _ (show floatBits .mul .f64 13666448263388469915 zz = some p1 from k4)
  have c5 := fun (t : TypeId) (W : World) => run_float_arith (P := Tryd.prog) W .add t .f64 _ _ _ (show floatBits .add .f64 p1 4477121864728985349 = some p2 from k5)
  have c6 := fun (t : TypeId) (W : World) => run_float_arith (P := Tryd.prog) W .mul t .f64 _ _ _ (show floatBits .mul .f64 p2 zz = some p3 from k6)
  have c7 := fun (t : TypeId) (W : World) => run_float_arith (P := Tryd.prog) W .add t .f64 _ _ _ (show floatBits .add .f64 p3 13732177093698800582 = some p4 from k7)
  have c8 := fun (t : TypeId) (W : World) => run_float_arith (P := Tryd.prog) W .mul t .f64 _ _ _ (show floatBits .mul .f64 p4 zz = some p5 from k8)
  have c9 := fun (t : TypeId) (W : World) => run_float_arith (P := Tryd.prog) W .add t .f64 _ _ _ (show floatBits .add .f64 p5 4537941361668146421 = some p6 from k9)
  have c10 := fun (t : TypeId) (W : World) => run_float_arith (P := Tryd.prog) W .mul t .f64 _ _ _ (show floatBits .mul .f64 p6 zz = some p7 from k10)
  have c11 := fun (t : TypeId) (W : World) => run_float_arith (P := Tryd.prog) W .add t .f64 _ _ _ (show floatBits .add .f64 p7 13787419979223748497 = some p8 from k11)
  have c12 := fun (t : TypeId) (W : World) => run_float_arith (P := Tryd.prog) W .mul t .f64 _ _ _ (show floatBits .mul .f64 p8 zz = some p9 from k12)
  have c13 := fun (t : TypeId) (W : World) => run_float_arith (P := Tryd.prog) W .add t .f64 _ _ _ (show floatBits .add .f64 p9 4586165620538955083 = some p10 from k13)
  have c14 := fun (t : TypeId) (W : World) => run_float_arith (P := Tryd.prog) W .mul t .f64 _ _ _ (show floatBits .mul .f64 b p10 = some m from k14)
  have c15 := fun (t : TypeId) (W : World) => run_float_arith (P := Tryd.prog) W .add t .f64 _ _ _ (show floatBits .add .f64 a2 m = some c from k15)
  have l0 := hT.cos 0 (by omega)
  rw [show cosW.getD 0 0 = 13666448263388469915 from rfl] at l0
  have l1 := hT.cos 1 (by omega)
  rw [show cosW.getD 1 0 = 4477121864728985349 from rfl] at l1
  have l2 := hT.cos 2 (by omega)
  rw [show cosW.getD 2 0 = 13732177093698800582 from rfl] at l2
  have l3 := hT.cos 3 (by omega)
  rw [show cosW.getD 3 0 = 4537941361668146421 from rfl] at l3
  have l4 := hT.cos 4 (by omega)
  rw [show cosW.getD 4 0 = 13787419979223748497 from rfl] at l4
  have l5 := hT.cos 5 (by omega)
  rw [show cosW.getD 5 0 = 4586165620538955083 from rfl] at l5
  clear k0 k1 k2 k3 k4 k5 k6 k7 k8 k9 k10 k11 k12 k13 k14 k15 hT
  have hcv := fun W => run_convert_float_int (P := Tryd.prog) W 22 32 .f64 .u64 _ _ (by kernel_rfl) Tryd.underlying32 hv
  have d0 := fun (t : TypeId) (W : World) => run_float_arith (P := Tryd.prog) W .mul t .f64 _ _ _ (show floatBits .mul .f64 X 4608412980311869571 = some p from hp)
  have d1 := fun (t : TypeId) (W : World) => run_float_arith (P := Tryd.prog) W .mul t .f64 _ _ _ (show floatBits .mul .f64 y 4605249456957292544 = some yA from hA)
  have d2 := fun (t : TypeId) (W : World) => run_float_arith (P := Tryd.prog) W .sub t .f64 _ _ _ (show floatBits .sub .f64 X yA = some z1 from hz1)
  have d3 := fun (t : TypeId) (W : World) => run_float_arith (P := Tryd.prog) W .mul t .f64 _ _ _ (show floatBits .mul .f64 y 4495793288086814720 = some yB from hB)
  have d4 := fun (t : TypeId) (W : World) => run_float_arith (P := Tryd.prog) W .sub t .f64 _ _ _ (show floatBits .sub .f64 z1 yB = some z2 from hz2)
  have d5 := fun (t : TypeId) (W : World) => run_float_arith (P := Tryd.prog) W .mul t .f64 _ _ _ (show floatBits .mul .f64 y 4388835458085048688 = some yC from hC)
  have d6 := fun (t : TypeId) (W : World) => run_float_arith (P := Tryd.prog) W .sub t .f64 _ _ _ (show floatBits .sub .f64 z2 yC = some z from hz)
  have d7 := fun (t : TypeId) (W : World) => run_float_arith (P := Tryd.prog) W .add t .f64 _ _ _ (show floatBits .add .f64 (floatOfInt .f64 n) 4607182418800017408 = some y from hy)
  clear hp hA hz1 hB hz2 hC hz hy hv
  go_enter Tryd.func13, Tryd.ntmps13
  go_wp2_with (first
    | (go_at_call 14; (with_reducible refine HN.out.mono ?_); rintro _ _ ⟨rfl, rfl⟩)
    | (go_at_call 15; (with_reducible refine HI.out.mono ?_); rintro _ _ ⟨rfl, rfl⟩)
    | (go_at_call 17; (with_reducible refine HA.out.mono ?_); rintro _ _ ⟨rfl, rfl⟩))
  go_ret
  exact ⟨rfl, rfl⟩
theorem cosS16 (x X p y z1 z2 z c yA yB yC : Nat) (n : Int) (w : World) (HN : Hid (Calls Tryd.prog 14 #[.float .f64 x] w fun e w' => e = .returned (.bool false) ∧ w = w')) (HI : Hid (Calls Tryd.prog 15 #[.float .f64 x, .int .i64 0] w fun e w' => e = .returned (.bool false) ∧ w = w'))
    (HA : Hid (Calls Tryd.prog 17 #[.float .f64 x] w fun e w' => e = .returned (.float .f64 X) ∧ w = w')) (hT : CTabs w)
    (g : (FloatKind.f64.format.order X 4737786807993761792 == some .gt) = false) (g' : (FloatKind.f64.format.order X 4737786807993761792 == some .eq) = false) (n0 : 0 ≤ n) (n1 : n < 4294967296)
    (hp : Ieee.double.mul X 4608412980311869571 = some p) (hv : floatToIntVal .f64 p .u64 = some n) (ha : bits .and .u64 n 1 = 1) (hj : bits .and .u64 (n + 1) 7 = 6)
    (hy : Ieee.double.add (floatOfInt .f64 n) 4607182418800017408 = some y) (hA : Ieee.double.mul y 4605249456957292544 = some yA) (hz1 : Ieee.double.sub X yA = some z1) (hB : Ieee.double.mul y 4495793288086814720 = some yB) (hz2 : Ieee.double.sub z1 yB = some z2)
    (hC : Ieee.double.mul y 4388835458085048688 = some yC) (hz : Ieee.double.sub z2 yC = some z) (hc : SinCh z c) :
    Calls Tryd.prog 13 #[.float .f64 x] w fun e w' => e = .returned (.float .f64 (c)) ∧ w = w' := by
  obtain ⟨zz, b, p1, p2, p3, p4, p5, p6, p7, p8, p9, p10, m, k0, k1, k2, k3, k4, k5, k6, k7, k8, k9, k10, k11, k12, k13⟩ := hc
  have c0 := fun (t : TypeId) (W : World) => run_float_arith (P := Tryd.prog) W .mul t .f64 _ _ _ (show floatBits .mul .f64 z z = some zz from k0)
  have c1 := fun (t : TypeId) (W : World) => run_float_arith (P := Tryd.prog) W .mul t .f64 _ _ _ (show floatBits .mul .f64 z zz = some b from k1)
  have c2 := fun (t : TypeId) (W : World) => run_float_arith (P := Tryd.prog) W .mul t .f64 _ _ _ (show floatBits .mul .f64 4460209587652500685 zz = some p1 from k2)
  have c3 := fun (t : TypeId) (W : World) => run_float_arith (P := Tryd.prog) W .add t .f64 _ _ _ (show floatBits .add .f64 p1 13716528389658582877 = some p2 from k3)
  have c4 := fun (t : TypeId) (W : World) => run_float_arith (P := Tryd.prog) W .mul t .f64 _ _ _ (show floatBits .mul .f64 p2 zz = some p3 from k4)
  have c5 := fun (t : TypeId) (W : World) => run_float_arith (P := Tryd.prog) W .add t .f64 _ _ _ (show floatBits .add .f64 p3 4523617212962785441 = some p4 from k5)
  have c6 := fun (t : TypeId) (W : World) => run_float_arith (P := Tryd.prog) W .mul t .f64 _ _ _ (show floatBits .mul .f64 p4 zz = some p5 from k6)
  have c7 := fun (t : TypeId) (W : World) => run_float_arith (P := Tryd.prog) W .add t .f64 _ _ _ (show floatBits .add .f64 p5 13774824197404483331 = some p6 from k7)
  have c8 := fun (t : TypeId) (W : World) => run_float_arith (P := Tryd.prog) W .mul t .f64 _ _ _ (show floatBits .mul .f64 p6 zz = some p7 from k8)
  have c9 := fun (t : TypeId) (W : World) => run_float_arith (P := Tryd.prog) W .add t .f64 _ _ _ (show floatBits .add .f64 p7 4575957461383575504 = some p8 from k9)
  have c10 := fun (t : TypeId) (W : World) => run_float_arith (P := Tryd.prog) W .mul t .f64 _ _ _ (show floatBits .mul .f64 p8 zz = some p9 from k10)
  have c11 := fun (t : TypeId) (W : World) => run_float_arith (P := Tryd.prog) W .add t .f64 _ _ _ (show floatBits .add .f64 p9 13818544856648471880 = some p10 from k11)
  have c12 := fun (t : TypeId) (W : World) => run_float_arith (P := Tryd.prog) W .mul t .f64 _ _ _ (show floatBits .mul .f64 b p10 = some m from k12)
  have c13 := fun (t : TypeId) (W : World) => run_float_arith (P := Tryd.prog) W .add t .f64 _ _ _ (show floatBits .add .f64 z m = some c from k13)
  have l0 := hT.sin 0 (by omega)
  rw [show sinW.getD 0 0 = 4460209587652500685 from rfl] at l0
  have l1 := hT.sin 1 (by omega)
  rw [show sinW.getD 1 0 = 13716528389658582877 from rfl] at l1
  have l2 := hT.sin 2 (by omega)
  rw [show sinW.getD 2 0 = 4523617212962785441 from rfl] at l2
  have l3 := hT.sin 3 (by omega)
  rw [show sinW.getD 3 0 = 13774824197404483331 from rfl] at l3
  have l4 := hT.sin 4 (by omega)
  rw [show sinW.getD 4 0 = 4575957461383575504 from rfl] at l4
  have l5 := hT.sin 5 (by omega)
  rw [show sinW.getD 5 0 = 13818544856648471880 from rfl] at l5
  clear k0 k1 k2 k3 k4 k5 k6 k7 k8 k9 k10 k11 k12 k13 hT
  have hcv := fun W => run_convert_float_int (P := Tryd.prog) W 22 32 .f64 .u64 _ _ (by kernel_rfl) Tryd.underlying32 hv
  have d0 := fun (t : TypeId) (W : World) => run_float_arith (P := Tryd.prog) W .mul t .f64 _ _ _ (show floatBits .mul .f64 X 4608412980311869571 = some p from hp)
  have d1 := fun (t : TypeId) (W : World) => run_float_arith (P := Tryd.prog) W .mul t .f64 _ _ _ (show floatBits .mul .f64 y 4605249456957292544 = some yA from hA)
  have d2 := fun (t : TypeId) (W : World) => run_float_arith (P := Tryd.prog) W .sub t .f64 _ _ _ (show floatBits .sub .f64 X yA = some z1 from hz1)
  have d3 := fun (t : TypeId) (W : World) => run_float_arith (P := Tryd.prog) W .mul t .f64 _ _ _ (show floatBits .mul .f64 y 4495793288086814720 = some yB from hB)
  have d4 := fun (t : TypeId) (W : World) => run_float_arith (P := Tryd.prog) W .sub t .f64 _ _ _ (show floatBits .sub .f64 z1 yB = some z2 from hz2)
  have d5 := fun (t : TypeId) (W : World) => run_float_arith (P := Tryd.prog) W .mul t .f64 _ _ _ (show floatBits .mul .f64 y 4388835458085048688 = some yC from hC)
  have d6 := fun (t : TypeId) (W : World) => run_float_arith (P := Tryd.prog) W .sub t .f64 _ _ _ (show floatBits .sub .f64 z2 yC = some z from hz)
  have d7 := fun (t : TypeId) (W : World) => run_float_arith (P := Tryd.prog) W .add t .f64 _ _ _ (show floatBits .add .f64 (floatOfInt .f64 n) 4607182418800017408 = some y from hy)
  clear hp hA hz1 hB hz2 hC hz hy hv
  go_enter Tryd.func13, Tryd.ntmps13
  go_wp2_with (first
    | (go_at_call 14; (with_reducible refine HN.out.mono ?_); rintro _ _ ⟨rfl, rfl⟩)
    | (go_at_call 15; (with_reducible refine HI.out.mono ?_); rintro _ _ ⟨rfl, rfl⟩)
    | (go_at_call 17; (with_reducible refine HA.out.mono ?_); rintro _ _ ⟨rfl, rfl⟩))
  go_ret
  exact ⟨rfl, rfl⟩
theorem cosH0 (x X z c : Nat) (w : World) (HN : Hid (Calls Tryd.prog 14 #[.float .f64 x] w fun e w' => e = .returned (.bool false) ∧ w = w')) (HI : Hid (Calls Tryd.prog 15 #[.float .f64 x, .int .i64 0] w fun e w' => e = .returned (.bool false) ∧ w = w'))
    (HA : Hid (Calls Tryd.prog 17 #[.float .f64 x] w fun e w' => e = .returned (.float .f64 X) ∧ w = w')) (hT : CTabs w)
    (g : (FloatKind.f64.format.order X 4737786807993761792 == some .gt || FloatKind.f64.format.order X 4737786807993761792 == some .eq) = true)
    (HR : Hid (Calls Tryd.prog 18 #[.float .f64 X] w fun e w' => ∃ k, e = .returned (.tuple #[.int .u64 0, .float .f64 z]) ∧ w' = w.drewN k)) (hc : CosCh z c) :
    Calls Tryd.prog 13 #[.float .f64 x] w fun e w' => ∃ k, e = .returned (.float .f64 (c)) ∧ w' = w.drewN k := by
  obtain ⟨zz, a1, a2, b, p1, p2, p3, p4, p5, p6, p7, p8, p9, p10, m, k0, k1, k2, k3, k4, k5, k6, k7, k8, k9, k10, k11, k12, k13, k14, k15⟩ := hc
  have c0 := fun (t : TypeId) (W : World) => run_float_arith (P := Tryd.prog) W .mul t .f64 _ _ _ (show floatBits .mul .f64 z z = some zz from k0)
  have c1 := fun (t : TypeId) (W : World) => run_float_arith (P := Tryd.prog) W .mul t .f64 _ _ _ (show floatBits .mul .f64 4602678819172646912 zz = some a1 from k1)
  have c2 := fun (t : TypeId) (W : World) => run_float_arith (P := Tryd.prog) W .sub t .f64 _ _ _ (show floatBits .sub .f64 4607182418800017408 a1 = some a2 from k2)
  have c3 := fun (t : TypeId) (W : World) => run_float_arith (P := Tryd.prog) W .mul t .f64 _ _ _ (show floatBits .mul .f64 zz zz = some b from k3)
  have c4 := fun (t : TypeId) (W : World) => run_float_arith (P := Tryd.prog) W .mul t .f64 _ _ _ (show floatBits .mul .f64 13666448263388469915 zz = some p1 from k4)
  have c5 := fun (t : TypeId) (W : World) => run_float_arith (P := Tryd.prog) W .add t .f64 _ _ _ (show floatBits .add .f64 p1 4477121864728985349 = some p2 from k5)
  have c6 := fun (t : TypeId) (W : World) => run_float_arith (P := Tryd.prog) W .mul t .f64 _ _ _ (show floatBits .mul .f64 p2 zz = some p3 from k6)
  have c7 := fun (t : TypeId) (W : World) => run_float_arith (P := Tryd.prog) W .add t .f64 _ _ _ (show floatBits .add .f64 p3 13732177093698800582 = some p4 from k7)
  have c8 := fun (t : TypeId) (W : World) => run_float_arith (P := Tryd.prog) W .mul t .f64 _ _ _ (show floatBits .mul .f64 p4 zz = some p5 from k8)
  have c9 := fun (t : TypeId) (W : World) => run_float_arith (P := Tryd.prog) W .add t .f64 _ _ _ (show floatBits .add .f64 p5 4537941361668146421 = some p6 from k9)
  have c10 := fun (t : TypeId) (W : World) => run_float_arith (P := Tryd.prog) W .mul t .f64 _ _ _ (show floatBits .mul .f64 p6 zz = some p7 from k10)
  have c11 := fun (t : TypeId) (W : World) => run_float_arith (P := Tryd.prog) W .add t .f64 _ _ _ (show floatBits .add .f64 p7 13787419979223748497 = some p8 from k11)
  have c12 := fun (t : TypeId) (W : World) => run_float_arith (P := Tryd.prog) W .mul t .f64 _ _ _ (show floatBits .mul .f64 p8 zz = some p9 from k12)
  have c13 := fun (t : TypeId) (W : World) => run_float_arith (P := Tryd.prog) W .add t .f64 _ _ _ (show floatBits .add .f64 p9 4586165620538955083 = some p10 from k13)
  have c14 := fun (t : TypeId) (W : World) => run_float_arith (P := Tryd.prog) W .mul t .f64 _ _ _ (show floatBits .mul .f64 b p10 = some m from k14)
  have c15 := fun (t : TypeId) (W : World) => run_float_arith (P := Tryd.prog) W .add t .f64 _ _ _ (show floatBits .add .f64 a2 m = some c from k15)
  have l0 := hT.cos 0 (by omega)
  rw [show cosW.getD 0 0 = 13666448263388469915 from rfl] at l0
  have l1 := hT.cos 1 (by omega)
  rw [show cosW.getD 1 0 = 4477121864728985349 from rfl] at l1
  have l2 := hT.cos 2 (by omega)
  rw [show cosW.getD 2 0 = 13732177093698800582 from rfl] at l2
  have l3 := hT.cos 3 (by omega)
  rw [show cosW.getD 3 0 = 4537941361668146421 from rfl] at l3
  have l4 := hT.cos 4 (by omega)
  rw [show cosW.getD 4 0 = 13787419979223748497 from rfl] at l4
  have l5 := hT.cos 5 (by omega)
  rw [show cosW.getD 5 0 = 4586165620538955083 from rfl] at l5
  clear k0 k1 k2 k3 k4 k5 k6 k7 k8 k9 k10 k11 k12 k13 k14 k15 hT
  go_enter Tryd.func13, Tryd.ntmps13
  go_wp2_with (first
    | (go_at_call 14; (with_reducible refine HN.out.mono ?_); rintro _ _ ⟨rfl, rfl⟩)
    | (go_at_call 15; (with_reducible refine HI.out.mono ?_); rintro _ _ ⟨rfl, rfl⟩)
    | (go_at_call 17; (with_reducible refine HA.out.mono ?_); rintro _ _ ⟨rfl, rfl⟩)
    | (go_at_call 18; (with_reducible refine HR.out.mono ?_); rintro _ _ ⟨k, rfl, rfl⟩))
  go_ret
  exact ⟨k, rfl, rfl⟩
theorem cosH2 (x X z c : Nat) (w : World) (HN : Hid (Calls Tryd.prog 14 #[.float .f64 x] w fun e w' => e = .returned (.bool false) ∧ w = w')) (HI : Hid (Calls Tryd.prog 15 #[.float .f64 x, .int .i64 0] w fun e w' => e = .returned (.bool false) ∧ w = w'))
    (HA : Hid (Calls Tryd.prog 17 #[.float .f64 x] w fun e w' => e = .returned (.float .f64 X) ∧ w = w')) (hT : CTabs w)
    (g : (FloatKind.f64.format.order X 4737786807993761792 == some .gt || FloatKind.f64.format.order X 4737786807993761792 == some .eq) = true)
    (HR : Hid (Calls Tryd.prog 18 #[.float .f64 X] w fun e w' => ∃ k, e = .returned (.tuple #[.int .u64 2, .float .f64 z]) ∧ w' = w.drewN k)) (hc : SinCh z c) :
    Calls Tryd.prog 13 #[.float .f64 x] w fun e w' => ∃ k, e = .returned (.float .f64 (Op.negFloat .f64 c)) ∧ w' = w.drewN k := by
  obtain ⟨zz, b, p1, p2, p3, p4, p5, p6, p7, p8, p9, p10, m, k0, k1, k2, k3, k4, k5, k6, k7, k8, k9, k10, k11, k12, k13⟩ := hc
  have c0 := fun (t : TypeId) (W : World) => run_float_arith (P := Tryd.prog) W .mul t .f64 _ _ _ (show floatBits .mul .f64 z z = some zz from k0)
  have c1 := fun (t : TypeId) (W : World) => run_float_arith (P := Tryd.prog) W .mul t .f64 _ _ _ (show floatBits .mul .f64 z zz = some b from k1)
  have c2 := fun (t : TypeId) (W : World) => run_float_arith (P := Tryd.prog) W .mul t .f64 _ _ _ (show floatBits .mul .f64 4460209587652500685 zz = some p1 from k2)
  have c3 := fun (t : TypeId) (W : World) => run_float_arith (P := Tryd.prog) W .add t .f64 _ _ _ (show floatBits .add .f64 p1 13716528389658582877 = some p2 from k3)
  have c4 := fun (t : TypeId) (W : World) => run_float_arith (P := Tryd.prog) W .mul t .f64 _ _ _ (show floatBits .mul .f64 p2 zz = some p3 from k4)
  have c5 := fun (t : TypeId) (W : World) => run_float_arith (P := Tryd.prog) W .add t .f64 _ _ _ (show floatBits .add .f64 p3 4523617212962785441 = some p4 from k5)
  have c6 := fun (t : TypeId) (W : World) => run_float_arith (P := Tryd.prog) W .mul t .f64 _ _ _ (show floatBits .mul .f64 p4 zz = some p5 from k6)
  have c7 := fun (t : TypeId) (W : World) => run_float_arith (P := Tryd.prog) W .add t .f64 _ _ _ (show floatBits .add .f64 p5 13774824197404483331 = some p6 from k7)
  have c8 := fun (t : TypeId) (W : World) => run_float_arith (P := Tryd.prog) W .mul t .f64 _ _ _ (show floatBits .mul .f64 p6 zz = some p7 from k8)
  have c9 := fun (t : TypeId) (W : World) => run_float_arith (P := Tryd.prog) W .add t .f64 _ _ _ (show floatBits .add .f64 p7 4575957461383575504 = some p8 from k9)
  have c10 := fun (t : TypeId) (W : World) => run_float_arith (P := Tryd.prog) W .mul t .f64 _ _ _ (show floatBits .mul .f64 p8 zz = some p9 from k10)
  have c11 := fun (t : TypeId) (W : World) => run_float_arith (P := Tryd.prog) W .add t .f64 _ _ _ (show floatBits .add .f64 p9 13818544856648471880 = some p10 from k11)
  have c12 := fun (t : TypeId) (W : World) => run_float_arith (P := Tryd.prog) W .mul t .f64 _ _ _ (show floatBits .mul .f64 b p10 = some m from k12)
  have c13 := fun (t : TypeId) (W : World) => run_float_arith (P := Tryd.prog) W .add t .f64 _ _ _ (show floatBits .add .f64 z m = some c from k13)
  have l0 := hT.sin 0 (by omega)
  rw [show sinW.getD 0 0 = 4460209587652500685 from rfl] at l0
  have l1 := hT.sin 1 (by omega)
  rw [show sinW.getD 1 0 = 13716528389658582877 from rfl] at l1
  have l2 := hT.sin 2 (by omega)
  rw [show sinW.getD 2 0 = 4523617212962785441 from rfl] at l2
  have l3 := hT.sin 3 (by omega)
  rw [show sinW.getD 3 0 = 13774824197404483331 from rfl] at l3
  have l4 := hT.sin 4 (by omega)
  rw [show sinW.getD 4 0 = 4575957461383575504 from rfl] at l4
  have l5 := hT.sin 5 (by omega)
  rw [show sinW.getD 5 0 = 13818544856648471880 from rfl] at l5
  clear k0 k1 k2 k3 k4 k5 k6 k7 k8 k9 k10 k11 k12 k13 hT
  go_enter Tryd.func13, Tryd.ntmps13
  go_wp2_with (first
    | (go_at_call 14; (with_reducible refine HN.out.mono ?_); rintro _ _ ⟨rfl, rfl⟩)
    | (go_at_call 15; (with_reducible refine HI.out.mono ?_); rintro _ _ ⟨rfl, rfl⟩)
    | (go_at_call 17; (with_reducible refine HA.out.mono ?_); rintro _ _ ⟨rfl, rfl⟩)
    | (go_at_call 18; (with_reducible refine HR.out.mono ?_); rintro _ _ ⟨k, rfl, rfl⟩))
  go_ret
  exact ⟨k, rfl, rfl⟩
theorem cosH4 (x X z c : Nat) (w : World) (HN : Hid (Calls Tryd.prog 14 #[.float .f64 x] w fun e w' => e = .returned (.bool false) ∧ w = w')) (HI : Hid (Calls Tryd.prog 15 #[.float .f64 x, .int .i64 0] w fun e w' => e = .returned (.bool false) ∧ w = w'))
    (HA : Hid (Calls Tryd.prog 17 #[.float .f64 x] w fun e w' => e = .returned (.float .f64 X) ∧ w = w')) (hT : CTabs w)
    (g : (FloatKind.f64.format.order X 4737786807993761792 == some .gt || FloatKind.f64.format.order X 4737786807993761792 == some .eq) = true)
    (HR : Hid (Calls Tryd.prog 18 #[.float .f64 X] w fun e w' => ∃ k, e = .returned (.tuple #[.int .u64 4, .float .f64 z]) ∧ w' = w.drewN k)) (hc : CosCh z c) :
    Calls Tryd.prog 13 #[.float .f64 x] w fun e w' => ∃ k, e = .returned (.float .f64 (Op.negFloat .f64 c)) ∧ w' = w.drewN k := by
  obtain ⟨zz, a1, a2, b, p1, p2, p3, p4, p5, p6, p7, p8, p9, p10, m, k0, k1, k2, k3, k4, k5, k6, k7, k8, k9, k10, k11, k12, k13, k14, k15⟩ := hc
  have c0 := fun (t : TypeId) (W : World) => run_float_arith (P := Tryd.prog) W .mul t .f64 _ _ _ (show floatBits .mul .f64 z z = some zz from k0)
  have c1 := fun (t : TypeId) (W : World) => run_float_arith (P := Tryd.prog) W .mul t .f64 _ _ _ (show floatBits .mul .f64 4602678819172646912 zz = some a1 from k1)
  have c2 := fun (t : TypeId) (W : World) => run_float_arith (P := Tryd.prog) W .sub t .f64 _ _ _ (show floatBits .sub .f64 4607182418800017408 a1 = some a2 from k2)
  have c3 := fun (t : TypeId) (W : World) => run_float_arith (P := Tryd.prog) W .mul t .f64 _ _ _ (show floatBits .mul .f64 zz zz = some b from k3)
  have c4 := fun (t : TypeId) (W : World) => run_float_arith (P := Tryd.prog) W .mul t .f64 _ _ _ (show floatBits .mul .f64 13666448263388469915 zz = some p1 from k4)
  have c5 := fun (t : TypeId) (W : World) => run_float_arith (P := Tryd.prog) W .add t .f64 _ _ _ (show floatBits .add .f64 p1 4477121864728985349 = some p2 from k5)
  have c6 := fun (t : TypeId) (W : World) => run_float_arith (P := Tryd.prog) W .mul t .f64 _ _ _ (show floatBits .mul .f64 p2 zz = some p3 from k6)
  have c7 := fun (t : TypeId) (W : World) => run_float_arith (P := Tryd.prog) W .add t .f64 _ _ _ (show floatBits .add .f64 p3 13732177093698800582 = some p4 from k7)
  have c8 := fun (t : TypeId) (W : World) => run_float_arith (P := Tryd.prog) W .mul t .f64 _ _ _ (show floatBits .mul .f64 p4 zz = some p5 from k8)
  have c9 := fun (t : TypeId) (W : World) => run_float_arith (P := Tryd.prog) W .add t .f64 _ _ _ (show floatBits .add .f64 p5 4537941361668146421 = some p6 from k9)
  have c10 := fun (t : TypeId) (W : World) => run_float_arith (P := Tryd.prog) W .mul t .f64 _ _ _ (show floatBits .mul .f64 p6 zz = some p7 from k10)
  have c11 := fun (t : TypeId) (W : World) => run_float_arith (P := Tryd.prog) W .add t .f64 _ _ _ (show floatBits .add .f64 p7 13787419979223748497 = some p8 from k11)
  have c12 := fun (t : TypeId) (W : World) => run_float_arith (P := Tryd.prog) W .mul t .f64 _ _ _ (show floatBits .mul .f64 p8 zz = some p9 from k12)
  have c13 := fun (t : TypeId) (W : World) => run_float_arith (P := Tryd.prog) W .add t .f64 _ _ _ (show floatBits .add .f64 p9 4586165620538955083 = some p10 from k13)
  have c14 := fun (t : TypeId) (W : World) => run_float_arith (P := Tryd.prog) W .mul t .f64 _ _ _ (show floatBits .mul .f64 b p10 = some m from k14)
  have c15 := fun (t : TypeId) (W : World) => run_float_arith (P := Tryd.prog) W .add t .f64 _ _ _ (show floatBits .add .f64 a2 m = some c from k15)
  have l0 := hT.cos 0 (by omega)
  rw [show cosW.getD 0 0 = 13666448263388469915 from rfl] at l0
  have l1 := hT.cos 1 (by omega)
  rw [show cosW.getD 1 0 = 4477121864728985349 from rfl] at l1
  have l2 := hT.cos 2 (by omega)
  rw [show cosW.getD 2 0 = 13732177093698800582 from rfl] at l2
  have l3 := hT.cos 3 (by omega)
  rw [show cosW.getD 3 0 = 4537941361668146421 from rfl] at l3
  have l4 := hT.cos 4 (by omega)
  rw [show cosW.getD 4 0 = 13787419979223748497 from rfl] at l4
  have l5 := hT.cos 5 (by omega)
  rw [show cosW.getD 5 0 = 4586165620538955083 from rfl] at l5
  clear k0 k1 k2 k3 k4 k5 k6 k7 k8 k9 k10 k11 k12 k13 k14 k15 hT
  go_enter Tryd.func13, Tryd.ntmps13
  go_wp2_with (first
    | (go_at_call 14; (with_reducible refine HN.out.mono ?_); rintro _ _ ⟨rfl, rfl⟩)
    | (go_at_call 15; (with_reducible refine HI.out.mono ?_); rintro _ _ ⟨rfl, rfl⟩)
    | (go_at_call 17; (with_reducible refine HA.out.mono ?_); rintro _ _ ⟨rfl, rfl⟩)
    | (go_at_call 18; (with_reducible refine HR.out.mono ?_); rintro _ _ ⟨k, rfl, rfl⟩))
  go_ret
  exact ⟨k, rfl, rfl⟩
theorem cosH6 (x X z c : Nat) (w : World) (HN : Hid (Calls Tryd.prog 14 #[.float .f64 x] w fun e w' => e = .returned (.bool false) ∧ w = w')) (HI : Hid (Calls Tryd.prog 15 #[.float .f64 x, .int .i64 0] w fun e w' => e = .returned (.bool false) ∧ w = w'))
    (HA : Hid (Calls Tryd.prog 17 #[.float .f64 x] w fun e w' => e = .returned (.float .f64 X) ∧ w = w')) (hT : CTabs w)
    (g : (FloatKind.f64.format.order X 4737786807993761792 == some .gt || FloatKind.f64.format.order X 4737786807993761792 == some .eq) = true)
    (HR : Hid (Calls Tryd.prog 18 #[.float .f64 X] w fun e w' => ∃ k, e = .returned (.tuple #[.int .u64 6, .float .f64 z]) ∧ w' = w.drewN k)) (hc : SinCh z c) :
    Calls Tryd.prog 13 #[.float .f64 x] w fun e w' => ∃ k, e = .returned (.float .f64 (c)) ∧ w' = w.drewN k := by
  obtain ⟨zz, b, p1, p2, p3, p4, p5, p6, p7, p8, p9, p10, m, k0, k1, k2, k3, k4, k5, k6, k7, k8, k9, k10, k11, k12, k13⟩ := hc
  have c0 := fun (t : TypeId) (W : World) => run_float_arith (P := Tryd.prog) W .mul t .f64 _ _ _ (show floatBits .mul .f64 z z = some zz from k0)
  have c1 := fun (t : TypeId) (W : World) => run_float_arith (P := Tryd.prog) W .mul t .f64 _ _ _ (show floatBits .mul .f64 z zz = some b from k1)
  have c2 := fun (t : TypeId) (W : World) => run_float_arith (P := Tryd.prog) W .mul t .f64 _ _ _ (show floatBits .mul .f64 4460209587652500685 zz = some p1 from k2)
  have c3 := fun (t : TypeId) (W : World) => run_float_arith (P := Tryd.prog) W .add t .f64 _ _ _ (show floatBits .add .f64 p1 13716528389658582877 = some p2 from k3)
  have c4 := fun (t : TypeId) (W : World) => run_float_arith (P := Tryd.prog) W .mul t .f64 _ _ _ (show floatBits .mul .f64 p2 zz = some p3 from k4)
  have c5 := fun (t : TypeId) (W : World) => run_float_arith (P := Tryd.prog) W .add t .f64 _ _ _ (show floatBits .add .f64 p3 4523617212962785441 = some p4 from k5)
  have c6 := fun (t : TypeId) (W : World) => run_float_arith (P := Tryd.prog) W .mul t .f64 _ _ _ (show floatBits .mul .f64 p4 zz = some p5 from k6)
  have c7 := fun (t : TypeId) (W : World) => run_float_arith (P := Tryd.prog) W .add t .f64 _ _ _ (show floatBits .add .f64 p5 13774824197404483331 = some p6 from k7)
  have c8 := fun (t : TypeId) (W : World) => run_float_arith (P := Tryd.prog) W .mul t .f64 _ _ _ (show floatBits .mul .f64 p6 zz = some p7 from k8)
  have c9 := fun (t : TypeId) (W : World) => run_float_arith (P := Tryd.prog) W .add t .f64 _ _ _ (show floatBits .add .f64 p7 4575957461383575504 = some p8 from k9)
  have c10 := fun (t : TypeId) (W : World) => run_float_arith (P := Tryd.prog) W .mul t .f64 _ _ _ (show floatBits .mul .f64 p8 zz = some p9 from k10)
  have c11 := fun (t : TypeId) (W : World) => run_float_arith (P := Tryd.prog) W .add t .f64 _ _ _ (show floatBits .add .f64 p9 13818544856648471880 = some p10 from k11)
  have c12 := fun (t : TypeId) (W : World) => run_float_arith (P := Tryd.prog) W .mul t .f64 _ _ _ (show floatBits .mul .f64 b p10 = some m from k12)
  have c13 := fun (t : TypeId) (W : World) => run_float_arith (P := Tryd.prog) W .add t .f64 _ _ _ (show floatBits .add .f64 z m = some c from k13)
  have l0 := hT.sin 0 (by omega)
  rw [show sinW.getD 0 0 = 4460209587652500685 from rfl] at l0
  have l1 := hT.sin 1 (by omega)
  rw [show sinW.getD 1 0 = 13716528389658582877 from rfl] at l1
  have l2 := hT.sin 2 (by omega)
  rw [show sinW.getD 2 0 = 4523617212962785441 from rfl] at l2
  have l3 := hT.sin 3 (by omega)
  rw [show sinW.getD 3 0 = 13774824197404483331 from rfl] at l3
  have l4 := hT.sin 4 (by omega)
  rw [show sinW.getD 4 0 = 4575957461383575504 from rfl] at l4
  have l5 := hT.sin 5 (by omega)
  rw [show sinW.getD 5 0 = 13818544856648471880 from rfl] at l5
  clear k0 k1 k2 k3 k4 k5 k6 k7 k8 k9 k10 k11 k12 k13 hT
  go_enter Tryd.func13, Tryd.ntmps13
  go_wp2_with (first
    | (go_at_call 14; (with_reducible refine HN.out.mono ?_); rintro _ _ ⟨rfl, rfl⟩)
    | (go_at_call 15; (with_reducible refine HI.out.mono ?_); rintro _ _ ⟨rfl, rfl⟩)
    | (go_at_call 17; (with_reducible refine HA.out.mono ?_); rintro _ _ ⟨rfl, rfl⟩)
    | (go_at_call 18; (with_reducible refine HR.out.mono ?_); rintro _ _ ⟨k, rfl, rfl⟩))
  go_ret
  exact ⟨k, rfl, rfl⟩
end Go.Proofs.YtkdlfggghgchjaaDoor
