/-
  ShouldFoldBinaryOperatorWhenMinifying over known leaves: plain answers, logic, shifts. No condition.
-/
import Derived.Test.YtfacphjjmmfegaaFld
namespace Go.Proofs.Ytfacphjjmmfegaa
open Go.ChangeShapes Go.WideShapes Go.ChangeAt Go.RowKit
set_option linter.unusedVariables false

section
variable {w : World} {b : Nat} {vl vr : Value} {ls rs : Bool} {lr rr : Nat} {la ra : Option Addr} {ll lc rl rc : Nat}
set_option maxRecDepth 100000 in
set_option maxHeartbeats 4000000 in
theorem true_26 (nd : Nd w b vl vr 26) (hl : Kn w vl ls lr (.slice la ll lc)) (hr : Kn w vr rs rr (.slice ra rl rc)) : Ans true b w := by
  have HF := Lib.hid (fun W (o : Below w.heap.size w W) => nd.four o)
  have H10 := fun W (o : Below w.heap.size w W) => Lib.hid (ex10 W (hl.below o) (hr.below o))
  have H13 := fun W (o : Below w.heap.size w W) => Lib.hid (ex13 W (hl.below o) (hr.below o))
  have H17 := Lib.hid ((hl.2 w (.of_below (Below.refl _ _))).prim)
  have c0 := nd.c0
  have c1 := nd.c1
  have c2 := nd.c2
  have c3 := nd.c3
  have c4 := nd.c4
  have hlt := nd.lt
  obtain ⟨Tl, xl, rfl⟩ := hl.1
  obtain ⟨Tr, xr, rfl⟩ := hr.1
  clear nd hl hr
  go_enter Try.func9, Try.ntmps9
  go_wp2_with fail
  go_ret
  exact ⟨rfl, (by repeat' (first | (with_reducible assumption) | (with_reducible exact Below.refl _ _) | (with_reducible refine below_drewN ?_ _) | (with_reducible refine Below.drew ?_)))⟩
set_option maxRecDepth 100000 in
set_option maxHeartbeats 4000000 in
theorem true_27 (nd : Nd w b vl vr 27) (hl : Kn w vl ls lr (.slice la ll lc)) (hr : Kn w vr rs rr (.slice ra rl rc)) : Ans true b w := by
  have HF := Lib.hid (fun W (o : Below w.heap.size w W) => nd.four o)
  have H10 := fun W (o : Below w.heap.size w W) => Lib.hid (ex10 W (hl.below o) (hr.below o))
  have H13 := fun W (o : Below w.heap.size w W) => Lib.hid (ex13 W (hl.below o) (hr.below o))
  have H17 := Lib.hid ((hl.2 w (.of_below (Below.refl _ _))).prim)
  have c0 := nd.c0
  have c1 := nd.c1
  have c2 := nd.c2
  have c3 := nd.c3
  have c4 := nd.c4
  have hlt := nd.lt
  obtain ⟨Tl, xl, rfl⟩ := hl.1
  obtain ⟨Tr, xr, rfl⟩ := hr.1
  clear nd hl hr
  go_enter Try.func9, Try.ntmps9
  go_wp2_with fail
  go_ret
  exact ⟨rfl, (by repeat' (first | (with_reducible assumption) | (with_reducible exact Below.refl _ _) | (with_reducible refine below_drewN ?_ _) | (with_reducible refine Below.drew ?_)))⟩
set_option maxRecDepth 100000 in
set_option maxHeartbeats 4000000 in
theorem true_28 (nd : Nd w b vl vr 28) (hl : Kn w vl ls lr (.slice la ll lc)) (hr : Kn w vr rs rr (.slice ra rl rc)) : Ans true b w := by
  have HF := Lib.hid (fun W (o : Below w.heap.size w W) => nd.four o)
  have H10 := fun W (o : Below w.heap.size w W) => Lib.hid (ex10 W (hl.below o) (hr.below o))
  have H13 := fun W (o : Below w.heap.size w W) => Lib.hid (ex13 W (hl.below o) (hr.below o))
  have H17 := Lib.hid ((hl.2 w (.of_below (Below.refl _ _))).prim)
  have c0 := nd.c0
  have c1 := nd.c1
  have c2 := nd.c2
  have c3 := nd.c3
  have c4 := nd.c4
  have hlt := nd.lt
  obtain ⟨Tl, xl, rfl⟩ := hl.1
  obtain ⟨Tr, xr, rfl⟩ := hr.1
  clear nd hl hr
  go_enter Try.func9, Try.ntmps9
  go_wp2_with fail
  go_ret
  exact ⟨rfl, (by repeat' (first | (with_reducible assumption) | (with_reducible exact Below.refl _ _) | (with_reducible refine below_drewN ?_ _) | (with_reducible refine Below.drew ?_)))⟩
set_option maxRecDepth 100000 in
set_option maxHeartbeats 4000000 in
theorem true_29 (nd : Nd w b vl vr 29) (hl : Kn w vl ls lr (.slice la ll lc)) (hr : Kn w vr rs rr (.slice ra rl rc)) : Ans true b w := by
  have HF := Lib.hid (fun W (o : Below w.heap.size w W) => nd.four o)
  have H10 := fun W (o : Below w.heap.size w W) => Lib.hid (ex10 W (hl.below o) (hr.below o))
  have H13 := fun W (o : Below w.heap.size w W) => Lib.hid (ex13 W (hl.below o) (hr.below o))
  have H17 := Lib.hid ((hl.2 w (.of_below (Below.refl _ _))).prim)
  have c0 := nd.c0
  have c1 := nd.c1
  have c2 := nd.c2
  have c3 := nd.c3
  have c4 := nd.c4
  have hlt := nd.lt
  obtain ⟨Tl, xl, rfl⟩ := hl.1
  obtain ⟨Tr, xr, rfl⟩ := hr.1
  clear nd hl hr
  go_enter Try.func9, Try.ntmps9
  go_wp2_with fail
  go_ret
  exact ⟨rfl, (by repeat' (first | (with_reducible assumption) | (with_reducible exact Below.refl _ _) | (with_reducible refine below_drewN ?_ _) | (with_reducible refine Below.drew ?_)))⟩
set_option maxRecDepth 100000 in
set_option maxHeartbeats 4000000 in
theorem true_24 (nd : Nd w b vl vr 24) (hl : Kn w vl ls lr (.slice la ll lc)) (hr : Kn w vr rs rr (.slice ra rl rc)) : Ans true b w := by
  have HF := Lib.hid (fun W (o : Below w.heap.size w W) => nd.four o)
  have H10 := fun W (o : Below w.heap.size w W) => Lib.hid (ex10 W (hl.below o) (hr.below o))
  have H13 := fun W (o : Below w.heap.size w W) => Lib.hid (ex13 W (hl.below o) (hr.below o))
  have H17 := Lib.hid ((hl.2 w (.of_below (Below.refl _ _))).prim)
  have c0 := nd.c0
  have c1 := nd.c1
  have c2 := nd.c2
  have c3 := nd.c3
  have c4 := nd.c4
  have hlt := nd.lt
  obtain ⟨Tl, xl, rfl⟩ := hl.1
  obtain ⟨Tr, xr, rfl⟩ := hr.1
  clear nd hl hr
  go_enter Try.func9, Try.ntmps9
  go_wp2_with fail
  go_ret
  exact ⟨rfl, (by repeat' (first | (with_reducible assumption) | (with_reducible exact Below.refl _ _) | (with_reducible refine below_drewN ?_ _) | (with_reducible refine Below.drew ?_)))⟩
set_option maxRecDepth 100000 in
set_option maxHeartbeats 4000000 in
theorem true_34 (nd : Nd w b vl vr 34) (hl : Kn w vl ls lr (.slice la ll lc)) (hr : Kn w vr rs rr (.slice ra rl rc)) : Ans true b w := by
  have HF := Lib.hid (fun W (o : Below w.heap.size w W) => nd.four o)
  have H10 := fun W (o : Below w.heap.size w W) => Lib.hid (ex10 W (hl.below o) (hr.below o))
  have H13 := fun W (o : Below w.heap.size w W) => Lib.hid (ex13 W (hl.below o) (hr.below o))
  have H17 := Lib.hid ((hl.2 w (.of_below (Below.refl _ _))).prim)
  have c0 := nd.c0
  have c1 := nd.c1
  have c2 := nd.c2
  have c3 := nd.c3
  have c4 := nd.c4
  have hlt := nd.lt
  obtain ⟨Tl, xl, rfl⟩ := hl.1
  obtain ⟨Tr, xr, rfl⟩ := hr.1
  clear nd hl hr
  go_enter Try.func9, Try.ntmps9
  go_wp2_with fail
  go_ret
  exact ⟨rfl, (by repeat' (first | (with_reducible assumption) | (with_reducible exact Below.refl _ _) | (with_reducible refine below_drewN ?_ _) | (with_reducible refine Below.drew ?_)))⟩
set_option maxRecDepth 100000 in
set_option maxHeartbeats 4000000 in
theorem true_33 (nd : Nd w b vl vr 33) (hl : Kn w vl ls lr (.slice la ll lc)) (hr : Kn w vr rs rr (.slice ra rl rc)) : Ans true b w := by
  have HF := Lib.hid (fun W (o : Below w.heap.size w W) => nd.four o)
  have H10 := fun W (o : Below w.heap.size w W) => Lib.hid (ex10 W (hl.below o) (hr.below o))
  have H13 := fun W (o : Below w.heap.size w W) => Lib.hid (ex13 W (hl.below o) (hr.below o))
  have H17 := Lib.hid ((hl.2 w (.of_below (Below.refl _ _))).prim)
  have c0 := nd.c0
  have c1 := nd.c1
  have c2 := nd.c2
  have c3 := nd.c3
  have c4 := nd.c4
  have hlt := nd.lt
  obtain ⟨Tl, xl, rfl⟩ := hl.1
  obtain ⟨Tr, xr, rfl⟩ := hr.1
  clear nd hl hr
  go_enter Try.func9, Try.ntmps9
  go_wp2_with fail
  go_ret
  exact ⟨rfl, (by repeat' (first | (with_reducible assumption) | (with_reducible exact Below.refl _ _) | (with_reducible refine below_drewN ?_ _) | (with_reducible refine Below.drew ?_)))⟩
set_option maxRecDepth 100000 in
set_option maxHeartbeats 4000000 in
theorem true_35 (nd : Nd w b vl vr 35) (hl : Kn w vl ls lr (.slice la ll lc)) (hr : Kn w vr rs rr (.slice ra rl rc)) : Ans true b w := by
  have HF := Lib.hid (fun W (o : Below w.heap.size w W) => nd.four o)
  have H10 := fun W (o : Below w.heap.size w W) => Lib.hid (ex10 W (hl.below o) (hr.below o))
  have H13 := fun W (o : Below w.heap.size w W) => Lib.hid (ex13 W (hl.below o) (hr.below o))
  have H17 := Lib.hid ((hl.2 w (.of_below (Below.refl _ _))).prim)
  have c0 := nd.c0
  have c1 := nd.c1
  have c2 := nd.c2
  have c3 := nd.c3
  have c4 := nd.c4
  have hlt := nd.lt
  obtain ⟨Tl, xl, rfl⟩ := hl.1
  obtain ⟨Tr, xr, rfl⟩ := hr.1
  clear nd hl hr
  go_enter Try.func9, Try.ntmps9
  go_wp2_with fail
  go_ret
  exact ⟨rfl, (by repeat' (first | (with_reducible assumption) | (with_reducible exact Below.refl _ _) | (with_reducible refine below_drewN ?_ _) | (with_reducible refine Below.drew ?_)))⟩
set_option maxRecDepth 100000 in
set_option maxHeartbeats 4000000 in
theorem true_17 (nd : Nd w b vl vr 17) (hl : Kn w vl ls lr (.slice la ll lc)) (hr : Kn w vr rs rr (.slice ra rl rc)) : Ans true b w := by
  have HF := Lib.hid (fun W (o : Below w.heap.size w W) => nd.four o)
  have H10 := fun W (o : Below w.heap.size w W) => Lib.hid (ex10 W (hl.below o) (hr.below o))
  have H13 := fun W (o : Below w.heap.size w W) => Lib.hid (ex13 W (hl.below o) (hr.below o))
  have H17 := Lib.hid ((hl.2 w (.of_below (Below.refl _ _))).prim)
  have c0 := nd.c0
  have c1 := nd.c1
  have c2 := nd.c2
  have c3 := nd.c3
  have c4 := nd.c4
  have hlt := nd.lt
  obtain ⟨Tl, xl, rfl⟩ := hl.1
  obtain ⟨Tr, xr, rfl⟩ := hr.1
  clear nd hl hr
  go_enter Try.func9, Try.ntmps9
  go_wp2_with fail
  go_ret
  exact ⟨rfl, (by repeat' (first | (with_reducible assumption) | (with_reducible exact Below.refl _ _) | (with_reducible refine below_drewN ?_ _) | (with_reducible refine Below.drew ?_)))⟩
set_option maxRecDepth 100000 in
set_option maxHeartbeats 4000000 in
theorem true_19 (nd : Nd w b vl vr 19) (hl : Kn w vl ls lr (.slice la ll lc)) (hr : Kn w vr rs rr (.slice ra rl rc)) : Ans true b w := by
  have HF := Lib.hid (fun W (o : Below w.heap.size w W) => nd.four o)
  have H10 := fun W (o : Below w.heap.size w W) => Lib.hid (ex10 W (hl.below o) (hr.below o))
  have H13 := fun W (o : Below w.heap.size w W) => Lib.hid (ex13 W (hl.below o) (hr.below o))
  have H17 := Lib.hid ((hl.2 w (.of_below (Below.refl _ _))).prim)
  have c0 := nd.c0
  have c1 := nd.c1
  have c2 := nd.c2
  have c3 := nd.c3
  have c4 := nd.c4
  have hlt := nd.lt
  obtain ⟨Tl, xl, rfl⟩ := hl.1
  obtain ⟨Tr, xr, rfl⟩ := hr.1
  clear nd hl hr
  go_enter Try.func9, Try.ntmps9
  go_wp2_with fail
  go_ret
  exact ⟨rfl, (by repeat' (first | (with_reducible assumption) | (with_reducible exact Below.refl _ _) | (with_reducible refine below_drewN ?_ _) | (with_reducible refine Below.drew ?_)))⟩
set_option maxRecDepth 100000 in
set_option maxHeartbeats 4000000 in
theorem true_18 (nd : Nd w b vl vr 18) (hl : Kn w vl ls lr (.slice la ll lc)) (hr : Kn w vr rs rr (.slice ra rl rc)) : Ans true b w := by
  have HF := Lib.hid (fun W (o : Below w.heap.size w W) => nd.four o)
  have H10 := fun W (o : Below w.heap.size w W) => Lib.hid (ex10 W (hl.below o) (hr.below o))
  have H13 := fun W (o : Below w.heap.size w W) => Lib.hid (ex13 W (hl.below o) (hr.below o))
  have H17 := Lib.hid ((hl.2 w (.of_below (Below.refl _ _))).prim)
  have c0 := nd.c0
  have c1 := nd.c1
  have c2 := nd.c2
  have c3 := nd.c3
  have c4 := nd.c4
  have hlt := nd.lt
  obtain ⟨Tl, xl, rfl⟩ := hl.1
  obtain ⟨Tr, xr, rfl⟩ := hr.1
  clear nd hl hr
  go_enter Try.func9, Try.ntmps9
  go_wp2_with fail
  go_ret
  exact ⟨rfl, (by repeat' (first | (with_reducible assumption) | (with_reducible exact Below.refl _ _) | (with_reducible refine below_drewN ?_ _) | (with_reducible refine Below.drew ?_)))⟩
set_option maxRecDepth 100000 in
set_option maxHeartbeats 4000000 in
theorem true_20 (nd : Nd w b vl vr 20) (hl : Kn w vl ls lr (.slice la ll lc)) (hr : Kn w vr rs rr (.slice ra rl rc)) : Ans true b w := by
  have HF := Lib.hid (fun W (o : Below w.heap.size w W) => nd.four o)
  have H10 := fun W (o : Below w.heap.size w W) => Lib.hid (ex10 W (hl.below o) (hr.below o))
  have H13 := fun W (o : Below w.heap.size w W) => Lib.hid (ex13 W (hl.below o) (hr.below o))
  have H17 := Lib.hid ((hl.2 w (.of_below (Below.refl _ _))).prim)
  have c0 := nd.c0
  have c1 := nd.c1
  have c2 := nd.c2
  have c3 := nd.c3
  have c4 := nd.c4
  have hlt := nd.lt
  obtain ⟨Tl, xl, rfl⟩ := hl.1
  obtain ⟨Tr, xr, rfl⟩ := hr.1
  clear nd hl hr
  go_enter Try.func9, Try.ntmps9
  go_wp2_with fail
  go_ret
  exact ⟨rfl, (by repeat' (first | (with_reducible assumption) | (with_reducible exact Below.refl _ _) | (with_reducible refine below_drewN ?_ _) | (with_reducible refine Below.drew ?_)))⟩
set_option maxRecDepth 100000 in
set_option maxHeartbeats 4000000 in
theorem logic_32 (nd : Nd w b vl vr 32) (hl : Kn w vl ls lr (.slice la ll lc)) (hr : Kn w vr rs rr (.slice ra rl rc)) : Ans true b w := by
  have HF := Lib.hid (fun W (o : Below w.heap.size w W) => nd.four o)
  have H10 := fun W (o : Below w.heap.size w W) => Lib.hid (ex10 W (hl.below o) (hr.below o))
  have H13 := fun W (o : Below w.heap.size w W) => Lib.hid (ex13 W (hl.below o) (hr.below o))
  have H17 := Lib.hid ((hl.2 w (.of_below (Below.refl _ _))).prim)
  have c0 := nd.c0
  have c1 := nd.c1
  have c2 := nd.c2
  have c3 := nd.c3
  have c4 := nd.c4
  have hlt := nd.lt
  obtain ⟨Tl, xl, rfl⟩ := hl.1
  obtain ⟨Tr, xr, rfl⟩ := hr.1
  clear nd hl hr
  go_enter Try.func9, Try.ntmps9
  go_wp2_with (go_at_call 17; (with_reducible refine H17.out.mono ?_); rintro _ _ ⟨rfl, rfl⟩)
  go_ret
  exact ⟨rfl, (by repeat' (first | (with_reducible assumption) | (with_reducible exact Below.refl _ _) | (with_reducible refine below_drewN ?_ _) | (with_reducible refine Below.drew ?_)))⟩
set_option maxRecDepth 100000 in
set_option maxHeartbeats 4000000 in
theorem logic_31 (nd : Nd w b vl vr 31) (hl : Kn w vl ls lr (.slice la ll lc)) (hr : Kn w vr rs rr (.slice ra rl rc)) : Ans true b w := by
  have HF := Lib.hid (fun W (o : Below w.heap.size w W) => nd.four o)
  have H10 := fun W (o : Below w.heap.size w W) => Lib.hid (ex10 W (hl.below o) (hr.below o))
  have H13 := fun W (o : Below w.heap.size w W) => Lib.hid (ex13 W (hl.below o) (hr.below o))
  have H17 := Lib.hid ((hl.2 w (.of_below (Below.refl _ _))).prim)
  have c0 := nd.c0
  have c1 := nd.c1
  have c2 := nd.c2
  have c3 := nd.c3
  have c4 := nd.c4
  have hlt := nd.lt
  obtain ⟨Tl, xl, rfl⟩ := hl.1
  obtain ⟨Tr, xr, rfl⟩ := hr.1
  clear nd hl hr
  go_enter Try.func9, Try.ntmps9
  go_wp2_with (go_at_call 17; (with_reducible refine H17.out.mono ?_); rintro _ _ ⟨rfl, rfl⟩)
  go_ret
  exact ⟨rfl, (by repeat' (first | (with_reducible assumption) | (with_reducible exact Below.refl _ _) | (with_reducible refine below_drewN ?_ _) | (with_reducible refine Below.drew ?_)))⟩
set_option maxRecDepth 100000 in
set_option maxHeartbeats 4000000 in
theorem logic_30 (nd : Nd w b vl vr 30) (hl : Kn w vl ls lr (.slice la ll lc)) (hr : Kn w vr rs rr (.slice ra rl rc)) : Ans true b w := by
  have HF := Lib.hid (fun W (o : Below w.heap.size w W) => nd.four o)
  have H10 := fun W (o : Below w.heap.size w W) => Lib.hid (ex10 W (hl.below o) (hr.below o))
  have H13 := fun W (o : Below w.heap.size w W) => Lib.hid (ex13 W (hl.below o) (hr.below o))
  have H17 := Lib.hid ((hl.2 w (.of_below (Below.refl _ _))).prim)
  have c0 := nd.c0
  have c1 := nd.c1
  have c2 := nd.c2
  have c3 := nd.c3
  have c4 := nd.c4
  have hlt := nd.lt
  obtain ⟨Tl, xl, rfl⟩ := hl.1
  obtain ⟨Tr, xr, rfl⟩ := hr.1
  clear nd hl hr
  go_enter Try.func9, Try.ntmps9
  go_wp2_with (go_at_call 17; (with_reducible refine H17.out.mono ?_); rintro _ _ ⟨rfl, rfl⟩)
  go_ret
  exact ⟨rfl, (by repeat' (first | (with_reducible assumption) | (with_reducible exact Below.refl _ _) | (with_reducible refine below_drewN ?_ _) | (with_reducible refine Below.drew ?_)))⟩
set_option maxRecDepth 100000 in
set_option maxHeartbeats 4000000 in
theorem other (op : Int) (nd : Nd w b vl vr op) (hl : Kn w vl ls lr (.slice la ll lc)) (hr : Kn w vr rs rr (.slice ra rl rc)) (n26 : ¬ op = 26) (n27 : ¬ op = 27) (n28 : ¬ op = 28) (n29 : ¬ op = 29) (n24 : ¬ op = 24) (n34 : ¬ op = 34) (n33 : ¬ op = 33) (n35 : ¬ op = 35) (n17 : ¬ op = 17) (n19 : ¬ op = 19) (n18 : ¬ op = 18) (n20 : ¬ op = 20) (n11 : ¬ op = 11) (n12 : ¬ op = 12) (n13 : ¬ op = 13) (n14 : ¬ op = 14) (n23 : ¬ op = 23) (n25 : ¬ op = 25) (n32 : ¬ op = 32) (n31 : ¬ op = 31) (n30 : ¬ op = 30) : Ans false b w := by
  have HF := Lib.hid (fun W (o : Below w.heap.size w W) => nd.four o)
  have H10 := fun W (o : Below w.heap.size w W) => Lib.hid (ex10 W (hl.below o) (hr.below o))
  have H13 := fun W (o : Below w.heap.size w W) => Lib.hid (ex13 W (hl.below o) (hr.below o))
  have H17 := Lib.hid ((hl.2 w (.of_below (Below.refl _ _))).prim)
  have c0 := nd.c0
  have c1 := nd.c1
  have c2 := nd.c2
  have c3 := nd.c3
  have c4 := nd.c4
  have hlt := nd.lt
  obtain ⟨Tl, xl, rfl⟩ := hl.1
  obtain ⟨Tr, xr, rfl⟩ := hr.1
  clear nd hl hr
  go_enter Try.func9, Try.ntmps9
  go_wp2_with fail
  go_ret
  exact ⟨rfl, (by repeat' (first | (with_reducible assumption) | (with_reducible exact Below.refl _ _) | (with_reducible refine below_drewN ?_ _) | (with_reducible refine Below.drew ?_)))⟩
theorem shl_ex32 (x y : Int) (hy : 0 ≤ y) : ∃ r, Op.shift .shl .i32 x .u32 y = pure (.int .i32 r) ∧ -2147483648 ≤ r ∧ r ≤ 2147483647 := by
  have h : ¬ y < 0 := by omega
  simp only [Op.shift, if_neg h]
  refine ⟨_, rfl, ?_, ?_⟩ <;> (rw [IntKind.wrap_i32]; omega)
theorem shr_ex32 (x y : Int) (hx : 0 ≤ x) (hx2 : x < 4294967296) (hy : 0 ≤ y) : ∃ r, Op.shift .shr .u32 x .u32 y = pure (.int .u32 r) ∧ 0 ≤ r ∧ r < 4294967296 := by
  have h : ¬ y < 0 := by omega
  simp only [Op.shift, if_neg h]
  refine ⟨_, rfl, ?_, ?_⟩
  · rw [Int.fdiv_eq_ediv_of_nonneg _ (Int.le_of_lt (Int.pow_pos (by omega)))]; exact Int.ediv_nonneg hx (Int.le_of_lt (Int.pow_pos (by omega)))
  · rw [Int.fdiv_eq_ediv_of_nonneg _ (Int.le_of_lt (Int.pow_pos (by omega)))]; exact Int.lt_of_le_of_lt (Int.ediv_le_self _ hx) hx2
theorem u32_wrap (x : Int) : 0 ≤ IntKind.u32.wrap x ∧ IntKind.u32.wrap x < 4294967296 := by rw [IntKind.wrap_u32]; omega
theorem and31 (u : Int) : ∃ k, bits .and .u32 u 31 = k ∧ Hid (0 ≤ k) := ⟨_, rfl, by
  show 0 ≤ IntKind.u32.wrap _
  exact (u32_wrap _).1⟩
theorem fin_iw {v : Int} (h1 : -4294967296 ≤ v) (h2 : v ≤ 4294967296) : floatOfInt .f64 v < 18446744073709551616 ∧ Fp.fin (floatOfInt .f64 v) := ⟨f64_range (floatOfInt_wf .f64 v), Fp.iw_fin (n := v) (by omega)⟩
theorem Below.stp {w W W' : World} (h : Below W.heap.size W W') (b : Below w.heap.size w W) : Below w.heap.size w W' := b.trans (h.mono b.size)
end
set_option maxRecDepth 100000 in
set_option maxHeartbeats 8000000 in
/-- The answer of a shift of two finite numbers. -/
theorem shift_ans (op : Int) (ho : op = 23 ∨ op = 25) (lr rr : Nat) (hxl : lr < 18446744073709551616) (hxr : rr < 18446744073709551616) (fl : Fp.fin lr) (fr : Fp.fin rr) :
    ∃ R, ∀ {w : World} {b : Nat} {vl vr : Value} {la ra : Option Addr} {ll lc rl rc : Nat}, Nd w b vl vr op → Kn w vl false lr (.slice la ll lc) → Kn w vr false rr (.slice ra rl rc) → Ans R b w := by
  obtain ⟨c1, p1, p2, hc1⟩ := count14 lr hxl fl
  obtain ⟨c2, p3, p4, hc2⟩ := count14 rr hxr fr
  obtain ⟨k, hk, hk0⟩ := and31 (IntKind.u32.wrap (i32of rr))
  rcases ho with rfl | rfl
  · obtain ⟨v, hv, v1, v2⟩ := shl_ex32 (i32of lr) k hk0.out
    obtain ⟨f1, f2⟩ := fin_iw (v := v) (by omega) (by omega)
    obtain ⟨c3, p5, p6, hc3⟩ := count14 _ f1 f2
    refine ⟨decide (c3 ≤ c1 + 2 + c2), fun {w b vl vr la ra ll lc rl rc} nd hl hr => ?_⟩
    have C1 := Lib.hid hc1
    have C2 := Lib.hid hc2
    have C3 := Lib.hid hc3
    have HF := Lib.hid (fun W (o : Below w.heap.size w W) => nd.four o)
    have H10 := fun W (o : Below w.heap.size w W) => Lib.hid (ex10 W (hl.below o) (hr.below o))
    have HI := Lib.hid (fun W => toInt32 lr hxl W)
    have HU := Lib.hid (fun W => toUint32 rr hxr W)
    have HV := Lib.hid (fun W => toUint32 lr hxl W)
    unfold N2 at H10
    simp only [Bool.or_self, Bool.false_eq_true, if_false, Bool.not_false] at H10
    have c0 := nd.c0
    have d1 := nd.c1
    have d2 := nd.c2
    have d3 := nd.c3
    have d4 := nd.c4
    have hlt := nd.lt
    obtain ⟨Tl, xl, rfl⟩ := hl.1
    obtain ⟨Tr, xr, rfl⟩ := hr.1
    clear nd hl hr hc1 hc2 hc3 fl fr f1 f2 hk0 v1 v2
    generalize hu : IntKind.u32.wrap (i32of rr) = u at *
    generalize hu2 : IntKind.u32.wrap (i32of lr) = u2 at *
    generalize i32of lr = i1 at *
    clear hu hu2
    generalize hz : floatOfInt .f64 v = z at *
    go_enter Try.func9, Try.ntmps9
    go_wp2_with fail
    go_region_held3 (fun w' => w'.cell? ⟨b, 0, none⟩ = some (.iface Tl xl) ∧ w'.cell? ⟨b, 1, none⟩ = some (.int .i32 0) ∧ w'.cell? ⟨b, 2, none⟩ = some (.iface Tr xr) ∧ w'.cell? ⟨b, 3, none⟩ = some (.int .i32 0)) (first | assumption | exact HF.out _ (by go_grown) | exact HF.out _ (by repeat' (first | (with_reducible assumption) | (with_reducible exact Below.refl _ _) | (with_reducible refine below_drewN ?_ _) | (with_reducible refine Below.drew ?_)))) (first | (go_at_call 10; (with_reducible refine ((H10 _ (by repeat' (first | (with_reducible assumption) | (with_reducible exact Below.refl _ _) | (with_reducible refine below_drewN ?_ _) | (with_reducible refine Below.drew ?_)))).out).mono ?_); rintro _ wa ⟨rfl, hb⟩; have hba : Below w.heap.size w wa := ((by repeat' (first | (with_reducible assumption) | (with_reducible exact Below.refl _ _) | (with_reducible refine below_drewN ?_ _) | (with_reducible refine Below.drew ?_))) : Below w.heap.size w _).trans (hb.mono (by first | exact Nat.le_refl _ | (simp; done) | (simp; omega))); have hS := HF.out _ hba; have zba := hba.size; clear hb))
    go_wp2_with (first
      | (go_at_call 14; (with_reducible refine (C1.out _).mono ?_); rintro _ _ ⟨rfl, rfl⟩)
      | (go_at_call 14; (with_reducible refine (C2.out _).mono ?_); rintro _ _ ⟨rfl, rfl⟩)
      | (go_at_call 14; (with_reducible refine (C3.out _).mono ?_); rintro _ _ ⟨rfl, rfl⟩)
      | (go_at_call 15; (with_reducible refine (HI.out _).mono ?_); rintro _ wc ⟨rfl, hb⟩; have hbc := Below.stp hb hba; clear hb)
      | (go_at_call 16; (with_reducible refine (HV.out _).mono ?_); rintro _ wc ⟨rfl, hb⟩; have hbc := Below.stp hb hba; clear hb)
      | (go_at_call 16; (with_reducible refine (HU.out _).mono ?_); rintro _ wd ⟨rfl, hb⟩; have hbd := Below.stp hb hbc; clear hb))
    go_ret
    exact ⟨rfl, (by repeat' (first | (with_reducible assumption) | (with_reducible exact Below.refl _ _) | (with_reducible refine below_drewN ?_ _) | (with_reducible refine Below.drew ?_)))⟩
  · obtain ⟨v, hv, v1, v2⟩ := shr_ex32 (IntKind.u32.wrap (i32of lr)) k (u32_wrap _).1 (u32_wrap _).2 hk0.out
    obtain ⟨f1, f2⟩ := fin_iw (v := v) (by omega) (by omega)
    obtain ⟨c3, p5, p6, hc3⟩ := count14 _ f1 f2
    refine ⟨decide (c3 ≤ c1 + 3 + c2), fun {w b vl vr la ra ll lc rl rc} nd hl hr => ?_⟩
    have C1 := Lib.hid hc1
    have C2 := Lib.hid hc2
    have C3 := Lib.hid hc3
    have HF := Lib.hid (fun W (o : Below w.heap.size w W) => nd.four o)
    have H10 := fun W (o : Below w.heap.size w W) => Lib.hid (ex10 W (hl.below o) (hr.below o))
    have HI := Lib.hid (fun W => toInt32 lr hxl W)
    have HU := Lib.hid (fun W => toUint32 rr hxr W)
    have HV := Lib.hid (fun W => toUint32 lr hxl W)
    unfold N2 at H10
    simp only [Bool.or_self, Bool.false_eq_true, if_false, Bool.not_false] at H10
    have c0 := nd.c0
    have d1 := nd.c1
    have d2 := nd.c2
    have d3 := nd.c3
    have d4 := nd.c4
    have hlt := nd.lt
    obtain ⟨Tl, xl, rfl⟩ := hl.1
    obtain ⟨Tr, xr, rfl⟩ := hr.1
    clear nd hl hr hc1 hc2 hc3 fl fr f1 f2 hk0 v1 v2
    generalize hu : IntKind.u32.wrap (i32of rr) = u at *
    generalize hu2 : IntKind.u32.wrap (i32of lr) = u2 at *
    generalize i32of lr = i1 at *
    clear hu hu2
    generalize hz : floatOfInt .f64 v = z at *
    go_enter Try.func9, Try.ntmps9
    go_wp2_with fail
    go_region_held3 (fun w' => w'.cell? ⟨b, 0, none⟩ = some (.iface Tl xl) ∧ w'.cell? ⟨b, 1, none⟩ = some (.int .i32 0) ∧ w'.cell? ⟨b, 2, none⟩ = some (.iface Tr xr) ∧ w'.cell? ⟨b, 3, none⟩ = some (.int .i32 0)) (first | assumption | exact HF.out _ (by go_grown) | exact HF.out _ (by repeat' (first | (with_reducible assumption) | (with_reducible exact Below.refl _ _) | (with_reducible refine below_drewN ?_ _) | (with_reducible refine Below.drew ?_)))) (first | (go_at_call 10; (with_reducible refine ((H10 _ (by repeat' (first | (with_reducible assumption) | (with_reducible exact Below.refl _ _) | (with_reducible refine below_drewN ?_ _) | (with_reducible refine Below.drew ?_)))).out).mono ?_); rintro _ wa ⟨rfl, hb⟩; have hba : Below w.heap.size w wa := ((by repeat' (first | (with_reducible assumption) | (with_reducible exact Below.refl _ _) | (with_reducible refine below_drewN ?_ _) | (with_reducible refine Below.drew ?_))) : Below w.heap.size w _).trans (hb.mono (by first | exact Nat.le_refl _ | (simp; done) | (simp; omega))); have hS := HF.out _ hba; have zba := hba.size; clear hb))
    go_wp2_with (first
      | (go_at_call 14; (with_reducible refine (C1.out _).mono ?_); rintro _ _ ⟨rfl, rfl⟩)
      | (go_at_call 14; (with_reducible refine (C2.out _).mono ?_); rintro _ _ ⟨rfl, rfl⟩)
      | (go_at_call 14; (with_reducible refine (C3.out _).mono ?_); rintro _ _ ⟨rfl, rfl⟩)
      | (go_at_call 15; (with_reducible refine (HI.out _).mono ?_); rintro _ wc ⟨rfl, hb⟩; have hbc := Below.stp hb hba; clear hb)
      | (go_at_call 16; (with_reducible refine (HV.out _).mono ?_); rintro _ wc ⟨rfl, hb⟩; have hbc := Below.stp hb hba; clear hb)
      | (go_at_call 16; (with_reducible refine (HU.out _).mono ?_); rintro _ wd ⟨rfl, hb⟩; have hbd := Below.stp hb hbc; clear hb))
    go_ret
    exact ⟨rfl, (by repeat' (first | (with_reducible assumption) | (with_reducible exact Below.refl _ _) | (with_reducible refine below_drewN ?_ _) | (with_reducible refine Below.drew ?_)))⟩
end Go.Proofs.Ytfacphjjmmfegaa
