/-
  ShouldFoldBinaryOperatorWhenMinifying over known leaves: sums, differences, products, quotients. No condition.
-/
import Derived.Test.YtfacphjjmmfegaaFld
namespace Go.Proofs.Ytfacphjjmmfegaa
open Go.ChangeShapes Go.WideShapes Go.ChangeAt Go.RowKit
set_option linter.unusedVariables false

section
variable {w : World} {b : Nat} {vl vr : Value} {ls rs : Bool} {lr rr : Nat} {la ra : Option Addr} {ll lc rl rc : Nat}
set_option maxRecDepth 100000 in
set_option maxHeartbeats 4000000 in
theorem sub_str (nd : Nd w b vl vr 12) (hl : Kn w vl ls lr (.slice la ll lc)) (hr : Kn w vr rs rr (.slice ra rl rc)) (hs : (ls || rs) = true) : Ans false b w := by
  have HF := Lib.hid (fun W (o : Below w.heap.size w W) => nd.four o)
  have H10 := fun W (o : Below w.heap.size w W) => Lib.hid (ex10 W (hl.below o) (hr.below o))
  have H13 := fun W (o : Below w.heap.size w W) => Lib.hid (ex13 W (hl.below o) (hr.below o))
  have H17 := Lib.hid ((hl.2 w (.of_below (Below.refl _ _))).prim)
  unfold N2 at H10
  simp only [hs, if_true, Bool.not_true] at H10
  have c0 := nd.c0
  have c1 := nd.c1
  have c2 := nd.c2
  have c3 := nd.c3
  have c4 := nd.c4
  have hlt := nd.lt
  obtain ⟨Tl, xl, rfl⟩ := hl.1
  obtain ⟨Tr, xr, rfl⟩ := hr.1
  clear nd hl hr
  go_enter Try.func9, Try.ntmps9
  go_wp2_with fail
  go_region_held3 (fun w' => w'.cell? ⟨b, 0, none⟩ = some (.iface Tl xl) ∧ w'.cell? ⟨b, 1, none⟩ = some (.int .i32 0) ∧ w'.cell? ⟨b, 2, none⟩ = some (.iface Tr xr) ∧ w'.cell? ⟨b, 3, none⟩ = some (.int .i32 0)) (first | assumption | exact HF.out _ (by go_grown) | exact HF.out _ (by repeat' (first | (with_reducible assumption) | (with_reducible exact Below.refl _ _) | (with_reducible refine below_drewN ?_ _) | (with_reducible refine Below.drew ?_)))) (first | (go_at_call 10; (with_reducible refine ((H10 _ (by repeat' (first | (with_reducible assumption) | (with_reducible exact Below.refl _ _) | (with_reducible refine below_drewN ?_ _) | (with_reducible refine Below.drew ?_)))).out).mono ?_); rintro _ wa ⟨rfl, hb⟩; have hba : Below w.heap.size w wa := ((by repeat' (first | (with_reducible assumption) | (with_reducible exact Below.refl _ _) | (with_reducible refine below_drewN ?_ _) | (with_reducible refine Below.drew ?_))) : Below w.heap.size w _).trans (hb.mono (by first | exact Nat.le_refl _ | (simp; done) | (simp; omega))); have hS := HF.out _ hba; have zba := hba.size; clear hb))
  go_wp2_with fail
  go_ret
  exact ⟨rfl, (by repeat' (first | (with_reducible assumption) | (with_reducible exact Below.refl _ _) | (with_reducible refine below_drewN ?_ _) | (with_reducible refine Below.drew ?_)))⟩
set_option maxRecDepth 100000 in
set_option maxHeartbeats 4000000 in
theorem mul_str (nd : Nd w b vl vr 13) (hl : Kn w vl ls lr (.slice la ll lc)) (hr : Kn w vr rs rr (.slice ra rl rc)) (hs : (ls || rs) = true) : Ans false b w := by
  have HF := Lib.hid (fun W (o : Below w.heap.size w W) => nd.four o)
  have H10 := fun W (o : Below w.heap.size w W) => Lib.hid (ex10 W (hl.below o) (hr.below o))
  have H13 := fun W (o : Below w.heap.size w W) => Lib.hid (ex13 W (hl.below o) (hr.below o))
  have H17 := Lib.hid ((hl.2 w (.of_below (Below.refl _ _))).prim)
  unfold N2 at H10
  simp only [hs, if_true, Bool.not_true] at H10
  have c0 := nd.c0
  have c1 := nd.c1
  have c2 := nd.c2
  have c3 := nd.c3
  have c4 := nd.c4
  have hlt := nd.lt
  obtain ⟨Tl, xl, rfl⟩ := hl.1
  obtain ⟨Tr, xr, rfl⟩ := hr.1
  clear nd hl hr
  go_enter Try.func9, Try.ntmps9
  go_wp2_with fail
  go_region_held3 (fun w' => w'.cell? ⟨b, 0, none⟩ = some (.iface Tl xl) ∧ w'.cell? ⟨b, 1, none⟩ = some (.int .i32 0) ∧ w'.cell? ⟨b, 2, none⟩ = some (.iface Tr xr) ∧ w'.cell? ⟨b, 3, none⟩ = some (.int .i32 0)) (first | assumption | exact HF.out _ (by go_grown) | exact HF.out _ (by repeat' (first | (with_reducible assumption) | (with_reducible exact Below.refl _ _) | (with_reducible refine below_drewN ?_ _) | (with_reducible refine Below.drew ?_)))) (first | (go_at_call 10; (with_reducible refine ((H10 _ (by repeat' (first | (with_reducible assumption) | (with_reducible exact Below.refl _ _) | (with_reducible refine below_drewN ?_ _) | (with_reducible refine Below.drew ?_)))).out).mono ?_); rintro _ wa ⟨rfl, hb⟩; have hba : Below w.heap.size w wa := ((by repeat' (first | (with_reducible assumption) | (with_reducible exact Below.refl _ _) | (with_reducible refine below_drewN ?_ _) | (with_reducible refine Below.drew ?_))) : Below w.heap.size w _).trans (hb.mono (by first | exact Nat.le_refl _ | (simp; done) | (simp; omega))); have hS := HF.out _ hba; have zba := hba.size; clear hb))
  go_wp2_with fail
  go_ret
  exact ⟨rfl, (by repeat' (first | (with_reducible assumption) | (with_reducible exact Below.refl _ _) | (with_reducible refine below_drewN ?_ _) | (with_reducible refine Below.drew ?_)))⟩
set_option maxRecDepth 100000 in
set_option maxHeartbeats 4000000 in
theorem div_str (nd : Nd w b vl vr 14) (hl : Kn w vl ls lr (.slice la ll lc)) (hr : Kn w vr rs rr (.slice ra rl rc)) (hs : (ls || rs) = true) : Ans false b w := by
  have HF := Lib.hid (fun W (o : Below w.heap.size w W) => nd.four o)
  have H10 := fun W (o : Below w.heap.size w W) => Lib.hid (ex10 W (hl.below o) (hr.below o))
  have H13 := fun W (o : Below w.heap.size w W) => Lib.hid (ex13 W (hl.below o) (hr.below o))
  have H17 := Lib.hid ((hl.2 w (.of_below (Below.refl _ _))).prim)
  unfold N2 at H10
  simp only [hs, if_true, Bool.not_true] at H10
  have c0 := nd.c0
  have c1 := nd.c1
  have c2 := nd.c2
  have c3 := nd.c3
  have c4 := nd.c4
  have hlt := nd.lt
  obtain ⟨Tl, xl, rfl⟩ := hl.1
  obtain ⟨Tr, xr, rfl⟩ := hr.1
  clear nd hl hr
  go_enter Try.func9, Try.ntmps9
  go_wp2_with fail
  go_region_held3 (fun w' => w'.cell? ⟨b, 0, none⟩ = some (.iface Tl xl) ∧ w'.cell? ⟨b, 1, none⟩ = some (.int .i32 0) ∧ w'.cell? ⟨b, 2, none⟩ = some (.iface Tr xr) ∧ w'.cell? ⟨b, 3, none⟩ = some (.int .i32 0)) (first | assumption | exact HF.out _ (by go_grown) | exact HF.out _ (by repeat' (first | (with_reducible assumption) | (with_reducible exact Below.refl _ _) | (with_reducible refine below_drewN ?_ _) | (with_reducible refine Below.drew ?_)))) (first | (go_at_call 10; (with_reducible refine ((H10 _ (by repeat' (first | (with_reducible assumption) | (with_reducible exact Below.refl _ _) | (with_reducible refine below_drewN ?_ _) | (with_reducible refine Below.drew ?_)))).out).mono ?_); rintro _ wa ⟨rfl, hb⟩; have hba : Below w.heap.size w wa := ((by repeat' (first | (with_reducible assumption) | (with_reducible exact Below.refl _ _) | (with_reducible refine below_drewN ?_ _) | (with_reducible refine Below.drew ?_))) : Below w.heap.size w _).trans (hb.mono (by first | exact Nat.le_refl _ | (simp; done) | (simp; omega))); have hS := HF.out _ hba; have zba := hba.size; clear hb))
  go_wp2_with fail
  go_ret
  exact ⟨rfl, (by repeat' (first | (with_reducible assumption) | (with_reducible exact Below.refl _ _) | (with_reducible refine below_drewN ?_ _) | (with_reducible refine Below.drew ?_)))⟩
set_option maxRecDepth 100000 in
set_option maxHeartbeats 4000000 in
theorem shl_str (nd : Nd w b vl vr 23) (hl : Kn w vl ls lr (.slice la ll lc)) (hr : Kn w vr rs rr (.slice ra rl rc)) (hs : (ls || rs) = true) : Ans false b w := by
  have HF := Lib.hid (fun W (o : Below w.heap.size w W) => nd.four o)
  have H10 := fun W (o : Below w.heap.size w W) => Lib.hid (ex10 W (hl.below o) (hr.below o))
  have H13 := fun W (o : Below w.heap.size w W) => Lib.hid (ex13 W (hl.below o) (hr.below o))
  have H17 := Lib.hid ((hl.2 w (.of_below (Below.refl _ _))).prim)
  unfold N2 at H10
  simp only [hs, if_true, Bool.not_true] at H10
  have c0 := nd.c0
  have c1 := nd.c1
  have c2 := nd.c2
  have c3 := nd.c3
  have c4 := nd.c4
  have hlt := nd.lt
  obtain ⟨Tl, xl, rfl⟩ := hl.1
  obtain ⟨Tr, xr, rfl⟩ := hr.1
  clear nd hl hr
  go_enter Try.func9, Try.ntmps9
  go_wp2_with fail
  go_region_held3 (fun w' => w'.cell? ⟨b, 0, none⟩ = some (.iface Tl xl) ∧ w'.cell? ⟨b, 1, none⟩ = some (.int .i32 0) ∧ w'.cell? ⟨b, 2, none⟩ = some (.iface Tr xr) ∧ w'.cell? ⟨b, 3, none⟩ = some (.int .i32 0)) (first | assumption | exact HF.out _ (by go_grown) | exact HF.out _ (by repeat' (first | (with_reducible assumption) | (with_reducible exact Below.refl _ _) | (with_reducible refine below_drewN ?_ _) | (with_reducible refine Below.drew ?_)))) (first | (go_at_call 10; (with_reducible refine ((H10 _ (by repeat' (first | (with_reducible assumption) | (with_reducible exact Below.refl _ _) | (with_reducible refine below_drewN ?_ _) | (with_reducible refine Below.drew ?_)))).out).mono ?_); rintro _ wa ⟨rfl, hb⟩; have hba : Below w.heap.size w wa := ((by repeat' (first | (with_reducible assumption) | (with_reducible exact Below.refl _ _) | (with_reducible refine below_drewN ?_ _) | (with_reducible refine Below.drew ?_))) : Below w.heap.size w _).trans (hb.mono (by first | exact Nat.le_refl _ | (simp; done) | (simp; omega))); have hS := HF.out _ hba; have zba := hba.size; clear hb))
  go_wp2_with fail
  go_ret
  exact ⟨rfl, (by repeat' (first | (with_reducible assumption) | (with_reducible exact Below.refl _ _) | (with_reducible refine below_drewN ?_ _) | (with_reducible refine Below.drew ?_)))⟩
set_option maxRecDepth 100000 in
set_option maxHeartbeats 4000000 in
theorem shr_str (nd : Nd w b vl vr 25) (hl : Kn w vl ls lr (.slice la ll lc)) (hr : Kn w vr rs rr (.slice ra rl rc)) (hs : (ls || rs) = true) : Ans false b w := by
  have HF := Lib.hid (fun W (o : Below w.heap.size w W) => nd.four o)
  have H10 := fun W (o : Below w.heap.size w W) => Lib.hid (ex10 W (hl.below o) (hr.below o))
  have H13 := fun W (o : Below w.heap.size w W) => Lib.hid (ex13 W (hl.below o) (hr.below o))
  have H17 := Lib.hid ((hl.2 w (.of_below (Below.refl _ _))).prim)
  unfold N2 at H10
  simp only [hs, if_true, Bool.not_true] at H10
  have c0 := nd.c0
  have c1 := nd.c1
  have c2 := nd.c2
  have c3 := nd.c3
  have c4 := nd.c4
  have hlt := nd.lt
  obtain ⟨Tl, xl, rfl⟩ := hl.1
  obtain ⟨Tr, xr, rfl⟩ := hr.1
  clear nd hl hr
  go_enter Try.func9, Try.ntmps9
  go_wp2_with fail
  go_region_held3 (fun w' => w'.cell? ⟨b, 0, none⟩ = some (.iface Tl xl) ∧ w'.cell? ⟨b, 1, none⟩ = some (.int .i32 0) ∧ w'.cell? ⟨b, 2, none⟩ = some (.iface Tr xr) ∧ w'.cell? ⟨b, 3, none⟩ = some (.int .i32 0)) (first | assumption | exact HF.out _ (by go_grown) | exact HF.out _ (by repeat' (first | (with_reducible assumption) | (with_reducible exact Below.refl _ _) | (with_reducible refine below_drewN ?_ _) | (with_reducible refine Below.drew ?_)))) (first | (go_at_call 10; (with_reducible refine ((H10 _ (by repeat' (first | (with_reducible assumption) | (with_reducible exact Below.refl _ _) | (with_reducible refine below_drewN ?_ _) | (with_reducible refine Below.drew ?_)))).out).mono ?_); rintro _ wa ⟨rfl, hb⟩; have hba : Below w.heap.size w wa := ((by repeat' (first | (with_reducible assumption) | (with_reducible exact Below.refl _ _) | (with_reducible refine below_drewN ?_ _) | (with_reducible refine Below.drew ?_))) : Below w.heap.size w _).trans (hb.mono (by first | exact Nat.le_refl _ | (simp; done) | (simp; omega))); have hS := HF.out _ hba; have zba := hba.size; clear hb))
  go_wp2_with fail
  go_ret
  exact ⟨rfl, (by repeat' (first | (with_reducible assumption) | (with_reducible exact Below.refl _ _) | (with_reducible refine below_drewN ?_ _) | (with_reducible refine Below.drew ?_)))⟩
set_option maxRecDepth 100000 in
set_option maxHeartbeats 4000000 in
theorem add_str_true (nd : Nd w b vl vr 11) (hl : Kn w vl ls lr (.slice la ll lc)) (hr : Kn w vr rs rr (.slice ra rl rc)) (hs : (ls || rs) = true) (hs2 : (ls && rs) = true) : Ans true b w := by
  have HF := Lib.hid (fun W (o : Below w.heap.size w W) => nd.four o)
  have H10 := fun W (o : Below w.heap.size w W) => Lib.hid (ex10 W (hl.below o) (hr.below o))
  have H13 := fun W (o : Below w.heap.size w W) => Lib.hid (ex13 W (hl.below o) (hr.below o))
  have H17 := Lib.hid ((hl.2 w (.of_below (Below.refl _ _))).prim)
  unfold N2 at H10
  simp only [hs, if_true, Bool.not_true] at H10
  simp only [hs2] at H13
  have c0 := nd.c0
  have c1 := nd.c1
  have c2 := nd.c2
  have c3 := nd.c3
  have c4 := nd.c4
  have hlt := nd.lt
  obtain ⟨Tl, xl, rfl⟩ := hl.1
  obtain ⟨Tr, xr, rfl⟩ := hr.1
  clear nd hl hr
  go_enter Try.func9, Try.ntmps9
  go_wp2_with fail
  go_region_held3 (fun w' => w'.cell? ⟨b, 0, none⟩ = some (.iface Tl xl) ∧ w'.cell? ⟨b, 1, none⟩ = some (.int .i32 0) ∧ w'.cell? ⟨b, 2, none⟩ = some (.iface Tr xr) ∧ w'.cell? ⟨b, 3, none⟩ = some (.int .i32 0)) (first | assumption | exact HF.out _ (by go_grown) | exact HF.out _ (by repeat' (first | (with_reducible assumption) | (with_reducible exact Below.refl _ _) | (with_reducible refine below_drewN ?_ _) | (with_reducible refine Below.drew ?_)))) (first | (go_at_call 10; (with_reducible refine ((H10 _ (by repeat' (first | (with_reducible assumption) | (with_reducible exact Below.refl _ _) | (with_reducible refine below_drewN ?_ _) | (with_reducible refine Below.drew ?_)))).out).mono ?_); rintro _ wa ⟨rfl, hb⟩; have hba : Below w.heap.size w wa := ((by repeat' (first | (with_reducible assumption) | (with_reducible exact Below.refl _ _) | (with_reducible refine below_drewN ?_ _) | (with_reducible refine Below.drew ?_))) : Below w.heap.size w _).trans (hb.mono (by first | exact Nat.le_refl _ | (simp; done) | (simp; omega))); have hS := HF.out _ hba; have zba := hba.size; clear hb))
  go_wp2_with fail
  go_region_held3 (fun w' => w'.cell? ⟨b, 0, none⟩ = some (.iface Tl xl) ∧ w'.cell? ⟨b, 1, none⟩ = some (.int .i32 0) ∧ w'.cell? ⟨b, 2, none⟩ = some (.iface Tr xr) ∧ w'.cell? ⟨b, 3, none⟩ = some (.int .i32 0)) (first | assumption | exact HF.out _ (by go_grown) | exact HF.out _ (by repeat' (first | (with_reducible assumption) | (with_reducible exact Below.refl _ _) | (with_reducible refine below_drewN ?_ _) | (with_reducible refine Below.drew ?_)))) (first | (go_at_call 13; (with_reducible refine ((H13 _ (by repeat' (first | (with_reducible assumption) | (with_reducible exact Below.refl _ _) | (with_reducible refine below_drewN ?_ _) | (with_reducible refine Below.drew ?_)))).out).mono ?_); rintro _ wb ⟨⟨a1, l1, k1, a2, l2, k2, rfl⟩, hb⟩; have hbb : Below w.heap.size w wb := ((by repeat' (first | (with_reducible assumption) | (with_reducible exact Below.refl _ _) | (with_reducible refine below_drewN ?_ _) | (with_reducible refine Below.drew ?_))) : Below w.heap.size w _).trans (hb.mono (by first | exact Nat.le_refl _ | (simp; done) | (simp; omega))); have hS2 := HF.out _ hbb; clear hb))
  go_wp2_with fail
  go_ret
  exact ⟨rfl, (by repeat' (first | (with_reducible assumption) | (with_reducible exact Below.refl _ _) | (with_reducible refine below_drewN ?_ _) | (with_reducible refine Below.drew ?_)))⟩
set_option maxRecDepth 100000 in
set_option maxHeartbeats 4000000 in
theorem add_str_false (nd : Nd w b vl vr 11) (hl : Kn w vl ls lr (.slice la ll lc)) (hr : Kn w vr rs rr (.slice ra rl rc)) (hs : (ls || rs) = true) (hs2 : (ls && rs) = false) : Ans false b w := by
  have HF := Lib.hid (fun W (o : Below w.heap.size w W) => nd.four o)
  have H10 := fun W (o : Below w.heap.size w W) => Lib.hid (ex10 W (hl.below o) (hr.below o))
  have H13 := fun W (o : Below w.heap.size w W) => Lib.hid (ex13 W (hl.below o) (hr.below o))
  have H17 := Lib.hid ((hl.2 w (.of_below (Below.refl _ _))).prim)
  unfold N2 at H10
  simp only [hs, if_true, Bool.not_true] at H10
  simp only [hs2] at H13
  have c0 := nd.c0
  have c1 := nd.c1
  have c2 := nd.c2
  have c3 := nd.c3
  have c4 := nd.c4
  have hlt := nd.lt
  obtain ⟨Tl, xl, rfl⟩ := hl.1
  obtain ⟨Tr, xr, rfl⟩ := hr.1
  clear nd hl hr
  go_enter Try.func9, Try.ntmps9
  go_wp2_with fail
  go_region_held3 (fun w' => w'.cell? ⟨b, 0, none⟩ = some (.iface Tl xl) ∧ w'.cell? ⟨b, 1, none⟩ = some (.int .i32 0) ∧ w'.cell? ⟨b, 2, none⟩ = some (.iface Tr xr) ∧ w'.cell? ⟨b, 3, none⟩ = some (.int .i32 0)) (first | assumption | exact HF.out _ (by go_grown) | exact HF.out _ (by repeat' (first | (with_reducible assumption) | (with_reducible exact Below.refl _ _) | (with_reducible refine below_drewN ?_ _) | (with_reducible refine Below.drew ?_)))) (first | (go_at_call 10; (with_reducible refine ((H10 _ (by repeat' (first | (with_reducible assumption) | (with_reducible exact Below.refl _ _) | (with_reducible refine below_drewN ?_ _) | (with_reducible refine Below.drew ?_)))).out).mono ?_); rintro _ wa ⟨rfl, hb⟩; have hba : Below w.heap.size w wa := ((by repeat' (first | (with_reducible assumption) | (with_reducible exact Below.refl _ _) | (with_reducible refine below_drewN ?_ _) | (with_reducible refine Below.drew ?_))) : Below w.heap.size w _).trans (hb.mono (by first | exact Nat.le_refl _ | (simp; done) | (simp; omega))); have hS := HF.out _ hba; have zba := hba.size; clear hb))
  go_wp2_with fail
  go_region_held3 (fun w' => w'.cell? ⟨b, 0, none⟩ = some (.iface Tl xl) ∧ w'.cell? ⟨b, 1, none⟩ = some (.int .i32 0) ∧ w'.cell? ⟨b, 2, none⟩ = some (.iface Tr xr) ∧ w'.cell? ⟨b, 3, none⟩ = some (.int .i32 0)) (first | assumption | exact HF.out _ (by go_grown) | exact HF.out _ (by repeat' (first | (with_reducible assumption) | (with_reducible exact Below.refl _ _) | (with_reducible refine below_drewN ?_ _) | (with_reducible refine Below.drew ?_)))) (first | (go_at_call 13; (with_reducible refine ((H13 _ (by repeat' (first | (with_reducible assumption) | (with_reducible exact Below.refl _ _) | (with_reducible refine below_drewN ?_ _) | (with_reducible refine Below.drew ?_)))).out).mono ?_); rintro _ wb ⟨⟨a1, l1, k1, a2, l2, k2, rfl⟩, hb⟩; have hbb : Below w.heap.size w wb := ((by repeat' (first | (with_reducible assumption) | (with_reducible exact Below.refl _ _) | (with_reducible refine below_drewN ?_ _) | (with_reducible refine Below.drew ?_))) : Below w.heap.size w _).trans (hb.mono (by first | exact Nat.le_refl _ | (simp; done) | (simp; omega))); have hS2 := HF.out _ hbb; clear hb))
  go_wp2_with fail
  go_ret
  exact ⟨rfl, (by repeat' (first | (with_reducible assumption) | (with_reducible exact Below.refl _ _) | (with_reducible refine below_drewN ?_ _) | (with_reducible refine Below.drew ?_)))⟩
set_option maxRecDepth 100000 in
set_option maxHeartbeats 4000000 in
theorem add_num0 (nd : Nd w b vl vr 11) (hl : Kn w vl ls lr (.slice la ll lc)) (hr : Kn w vr rs rr (.slice ra rl rc)) (hxl : lr < 18446744073709551616) (hxr : rr < 18446744073709551616) (ht1 : bT lr = false) (hls : ls = false) (hrs : rs = false) : Ans false b w := by
  have HF := Lib.hid (fun W (o : Below w.heap.size w W) => nd.four o)
  have H10 := fun W (o : Below w.heap.size w W) => Lib.hid (ex10 W (hl.below o) (hr.below o))
  have H13 := fun W (o : Below w.heap.size w W) => Lib.hid (ex13 W (hl.below o) (hr.below o))
  have H17 := Lib.hid ((hl.2 w (.of_below (Below.refl _ _))).prim)
  subst hls hrs
  unfold N2 at H10
  simp only [Bool.or_self, Bool.false_eq_true, if_false, Bool.not_false] at H10
  simp only [Bool.and_self] at H13
  have c0 := nd.c0
  have c1 := nd.c1
  have c2 := nd.c2
  have c3 := nd.c3
  have c4 := nd.c4
  have hlt := nd.lt
  obtain ⟨Tl, xl, rfl⟩ := hl.1
  obtain ⟨Tr, xr, rfl⟩ := hr.1
  clear nd hl hr
  go_enter Try.func9, Try.ntmps9
  go_wp2_with fail
  go_region_held3 (fun w' => w'.cell? ⟨b, 0, none⟩ = some (.iface Tl xl) ∧ w'.cell? ⟨b, 1, none⟩ = some (.int .i32 0) ∧ w'.cell? ⟨b, 2, none⟩ = some (.iface Tr xr) ∧ w'.cell? ⟨b, 3, none⟩ = some (.int .i32 0)) (first | assumption | exact HF.out _ (by go_grown) | exact HF.out _ (by repeat' (first | (with_reducible assumption) | (with_reducible exact Below.refl _ _) | (with_reducible refine below_drewN ?_ _) | (with_reducible refine Below.drew ?_)))) (first | (go_at_call 10; (with_reducible refine ((H10 _ (by repeat' (first | (with_reducible assumption) | (with_reducible exact Below.refl _ _) | (with_reducible refine below_drewN ?_ _) | (with_reducible refine Below.drew ?_)))).out).mono ?_); rintro _ wa ⟨rfl, hb⟩; have hba : Below w.heap.size w wa := ((by repeat' (first | (with_reducible assumption) | (with_reducible exact Below.refl _ _) | (with_reducible refine below_drewN ?_ _) | (with_reducible refine Below.drew ?_))) : Below w.heap.size w _).trans (hb.mono (by first | exact Nat.le_refl _ | (simp; done) | (simp; omega))); have hS := HF.out _ hba; have zba := hba.size; clear hb))
  go_wp2_with (first
    | (go_at_call 11; (with_reducible refine (trunc11 lr _).mono ?_); rintro _ _ ⟨x1, n1, rfl, e1, rfl⟩; rw [ht1] at e1)
    | (go_at_call 11; (with_reducible refine (trunc11 rr _).mono ?_); rintro _ _ ⟨x2, n2, rfl, e2, rfl⟩; rw [ht2] at e2)
    | (go_at_call 12; (with_reducible refine (abs lr hxl _).mono ?_); rintro _ _ ⟨rfl, rfl⟩)
    | (go_at_call 12; (with_reducible refine (abs rr hxr _).mono ?_); rintro _ _ ⟨rfl, rfl⟩))
  go_region_held3 (fun w' => w'.cell? ⟨b, 0, none⟩ = some (.iface Tl xl) ∧ w'.cell? ⟨b, 1, none⟩ = some (.int .i32 0) ∧ w'.cell? ⟨b, 2, none⟩ = some (.iface Tr xr) ∧ w'.cell? ⟨b, 3, none⟩ = some (.int .i32 0)) (first | assumption | exact HF.out _ (by go_grown) | exact HF.out _ (by repeat' (first | (with_reducible assumption) | (with_reducible exact Below.refl _ _) | (with_reducible refine below_drewN ?_ _) | (with_reducible refine Below.drew ?_)))) (first | (go_at_call 13; (with_reducible refine ((H13 _ (by repeat' (first | (with_reducible assumption) | (with_reducible exact Below.refl _ _) | (with_reducible refine below_drewN ?_ _) | (with_reducible refine Below.drew ?_)))).out).mono ?_); rintro _ wb ⟨⟨a1, l1, k1, a2, l2, k2, rfl⟩, hb⟩; have hbb : Below w.heap.size w wb := ((by repeat' (first | (with_reducible assumption) | (with_reducible exact Below.refl _ _) | (with_reducible refine below_drewN ?_ _) | (with_reducible refine Below.drew ?_))) : Below w.heap.size w _).trans (hb.mono (by first | exact Nat.le_refl _ | (simp; done) | (simp; omega))); have hS2 := HF.out _ hbb; clear hb))
  go_wp2_with fail
  go_ret
  exact ⟨rfl, (by repeat' (first | (with_reducible assumption) | (with_reducible exact Below.refl _ _) | (with_reducible refine below_drewN ?_ _) | (with_reducible refine Below.drew ?_)))⟩
set_option maxRecDepth 100000 in
set_option maxHeartbeats 4000000 in
theorem add_num1 (nd : Nd w b vl vr 11) (hl : Kn w vl ls lr (.slice la ll lc)) (hr : Kn w vr rs rr (.slice ra rl rc)) (hxl : lr < 18446744073709551616) (hxr : rr < 18446744073709551616) (ht1 : bT lr = true) (ha1 : bA lr 4751297606873776128 = false) (hls : ls = false) (hrs : rs = false) : Ans false b w := by
  have HF := Lib.hid (fun W (o : Below w.heap.size w W) => nd.four o)
  have H10 := fun W (o : Below w.heap.size w W) => Lib.hid (ex10 W (hl.below o) (hr.below o))
  have H13 := fun W (o : Below w.heap.size w W) => Lib.hid (ex13 W (hl.below o) (hr.below o))
  have H17 := Lib.hid ((hl.2 w (.of_below (Below.refl _ _))).prim)
  subst hls hrs
  unfold N2 at H10
  simp only [Bool.or_self, Bool.false_eq_true, if_false, Bool.not_false] at H10
  simp only [Bool.and_self] at H13
  have c0 := nd.c0
  have c1 := nd.c1
  have c2 := nd.c2
  have c3 := nd.c3
  have c4 := nd.c4
  have hlt := nd.lt
  obtain ⟨Tl, xl, rfl⟩ := hl.1
  obtain ⟨Tr, xr, rfl⟩ := hr.1
  clear nd hl hr
  unfold bA at ha1
  go_enter Try.func9, Try.ntmps9
  go_wp2_with fail
  go_region_held3 (fun w' => w'.cell? ⟨b, 0, none⟩ = some (.iface Tl xl) ∧ w'.cell? ⟨b, 1, none⟩ = some (.int .i32 0) ∧ w'.cell? ⟨b, 2, none⟩ = some (.iface Tr xr) ∧ w'.cell? ⟨b, 3, none⟩ = some (.int .i32 0)) (first | assumption | exact HF.out _ (by go_grown) | exact HF.out _ (by repeat' (first | (with_reducible assumption) | (with_reducible exact Below.refl _ _) | (with_reducible refine below_drewN ?_ _) | (with_reducible refine Below.drew ?_)))) (first | (go_at_call 10; (with_reducible refine ((H10 _ (by repeat' (first | (with_reducible assumption) | (with_reducible exact Below.refl _ _) | (with_reducible refine below_drewN ?_ _) | (with_reducible refine Below.drew ?_)))).out).mono ?_); rintro _ wa ⟨rfl, hb⟩; have hba : Below w.heap.size w wa := ((by repeat' (first | (with_reducible assumption) | (with_reducible exact Below.refl _ _) | (with_reducible refine below_drewN ?_ _) | (with_reducible refine Below.drew ?_))) : Below w.heap.size w _).trans (hb.mono (by first | exact Nat.le_refl _ | (simp; done) | (simp; omega))); have hS := HF.out _ hba; have zba := hba.size; clear hb))
  go_wp2_with (first
    | (go_at_call 11; (with_reducible refine (trunc11 lr _).mono ?_); rintro _ _ ⟨x1, n1, rfl, e1, rfl⟩; rw [ht1] at e1)
    | (go_at_call 11; (with_reducible refine (trunc11 rr _).mono ?_); rintro _ _ ⟨x2, n2, rfl, e2, rfl⟩; rw [ht2] at e2)
    | (go_at_call 12; (with_reducible refine (abs lr hxl _).mono ?_); rintro _ _ ⟨rfl, rfl⟩)
    | (go_at_call 12; (with_reducible refine (abs rr hxr _).mono ?_); rintro _ _ ⟨rfl, rfl⟩))
  go_region_held3 (fun w' => w'.cell? ⟨b, 0, none⟩ = some (.iface Tl xl) ∧ w'.cell? ⟨b, 1, none⟩ = some (.int .i32 0) ∧ w'.cell? ⟨b, 2, none⟩ = some (.iface Tr xr) ∧ w'.cell? ⟨b, 3, none⟩ = some (.int .i32 0)) (first | assumption | exact HF.out _ (by go_grown) | exact HF.out _ (by repeat' (first | (with_reducible assumption) | (with_reducible exact Below.refl _ _) | (with_reducible refine below_drewN ?_ _) | (with_reducible refine Below.drew ?_)))) (first | (go_at_call 13; (with_reducible refine ((H13 _ (by repeat' (first | (with_reducible assumption) | (with_reducible exact Below.refl _ _) | (with_reducible refine below_drewN ?_ _) | (with_reducible refine Below.drew ?_)))).out).mono ?_); rintro _ wb ⟨⟨a1, l1, k1, a2, l2, k2, rfl⟩, hb⟩; have hbb : Below w.heap.size w wb := ((by repeat' (first | (with_reducible assumption) | (with_reducible exact Below.refl _ _) | (with_reducible refine below_drewN ?_ _) | (with_reducible refine Below.drew ?_))) : Below w.heap.size w _).trans (hb.mono (by first | exact Nat.le_refl _ | (simp; done) | (simp; omega))); have hS2 := HF.out _ hbb; clear hb))
  go_wp2_with fail
  go_ret
  exact ⟨rfl, (by repeat' (first | (with_reducible assumption) | (with_reducible exact Below.refl _ _) | (with_reducible refine below_drewN ?_ _) | (with_reducible refine Below.drew ?_)))⟩
set_option maxRecDepth 100000 in
set_option maxHeartbeats 4000000 in
theorem add_num2 (nd : Nd w b vl vr 11) (hl : Kn w vl ls lr (.slice la ll lc)) (hr : Kn w vr rs rr (.slice ra rl rc)) (hxl : lr < 18446744073709551616) (hxr : rr < 18446744073709551616) (ht1 : bT lr = true) (ha1 : bA lr 4751297606873776128 = true) (ht2 : bT rr = false) (hls : ls = false) (hrs : rs = false) : Ans false b w := by
  have HF := Lib.hid (fun W (o : Below w.heap.size w W) => nd.four o)
  have H10 := fun W (o : Below w.heap.size w W) => Lib.hid (ex10 W (hl.below o) (hr.below o))
  have H13 := fun W (o : Below w.heap.size w W) => Lib.hid (ex13 W (hl.below o) (hr.below o))
  have H17 := Lib.hid ((hl.2 w (.of_below (Below.refl _ _))).prim)
  subst hls hrs
  unfold N2 at H10
  simp only [Bool.or_self, Bool.false_eq_true, if_false, Bool.not_false] at H10
  simp only [Bool.and_self] at H13
  have c0 := nd.c0
  have c1 := nd.c1
  have c2 := nd.c2
  have c3 := nd.c3
  have c4 := nd.c4
  have hlt := nd.lt
  obtain ⟨Tl, xl, rfl⟩ := hl.1
  obtain ⟨Tr, xr, rfl⟩ := hr.1
  clear nd hl hr
  unfold bA at ha1
  go_enter Try.func9, Try.ntmps9
  go_wp2_with fail
  go_region_held3 (fun w' => w'.cell? ⟨b, 0, none⟩ = some (.iface Tl xl) ∧ w'.cell? ⟨b, 1, none⟩ = some (.int .i32 0) ∧ w'.cell? ⟨b, 2, none⟩ = some (.iface Tr xr) ∧ w'.cell? ⟨b, 3, none⟩ = some (.int .i32 0)) (first | assumption | exact HF.out _ (by go_grown) | exact HF.out _ (by repeat' (first | (with_reducible assumption) | (with_reducible exact Below.refl _ _) | (with_reducible refine below_drewN ?_ _) | (with_reducible refine Below.drew ?_)))) (first | (go_at_call 10; (with_reducible refine ((H10 _ (by repeat' (first | (with_reducible assumption) | (with_reducible exact Below.refl _ _) | (with_reducible refine below_drewN ?_ _) | (with_reducible refine Below.drew ?_)))).out).mono ?_); rintro _ wa ⟨rfl, hb⟩; have hba : Below w.heap.size w wa := ((by repeat' (first | (with_reducible assumption) | (with_reducible exact Below.refl _ _) | (with_reducible refine below_drewN ?_ _) | (with_reducible refine Below.drew ?_))) : Below w.heap.size w _).trans (hb.mono (by first | exact Nat.le_refl _ | (simp; done) | (simp; omega))); have hS := HF.out _ hba; have zba := hba.size; clear hb))
  go_wp2_with (first
    | (go_at_call 11; (with_reducible refine (trunc11 lr _).mono ?_); rintro _ _ ⟨x1, n1, rfl, e1, rfl⟩; rw [ht1] at e1)
    | (go_at_call 11; (with_reducible refine (trunc11 rr _).mono ?_); rintro _ _ ⟨x2, n2, rfl, e2, rfl⟩; rw [ht2] at e2)
    | (go_at_call 12; (with_reducible refine (abs lr hxl _).mono ?_); rintro _ _ ⟨rfl, rfl⟩)
    | (go_at_call 12; (with_reducible refine (abs rr hxr _).mono ?_); rintro _ _ ⟨rfl, rfl⟩))
  go_region_held3 (fun w' => w'.cell? ⟨b, 0, none⟩ = some (.iface Tl xl) ∧ w'.cell? ⟨b, 1, none⟩ = some (.int .i32 0) ∧ w'.cell? ⟨b, 2, none⟩ = some (.iface Tr xr) ∧ w'.cell? ⟨b, 3, none⟩ = some (.int .i32 0)) (first | assumption | exact HF.out _ (by go_grown) | exact HF.out _ (by repeat' (first | (with_reducible assumption) | (with_reducible exact Below.refl _ _) | (with_reducible refine below_drewN ?_ _) | (with_reducible refine Below.drew ?_)))) (first | (go_at_call 13; (with_reducible refine ((H13 _ (by repeat' (first | (with_reducible assumption) | (with_reducible exact Below.refl _ _) | (with_reducible refine below_drewN ?_ _) | (with_reducible refine Below.drew ?_)))).out).mono ?_); rintro _ wb ⟨⟨a1, l1, k1, a2, l2, k2, rfl⟩, hb⟩; have hbb : Below w.heap.size w wb := ((by repeat' (first | (with_reducible assumption) | (with_reducible exact Below.refl _ _) | (with_reducible refine below_drewN ?_ _) | (with_reducible refine Below.drew ?_))) : Below w.heap.size w _).trans (hb.mono (by first | exact Nat.le_refl _ | (simp; done) | (simp; omega))); have hS2 := HF.out _ hbb; clear hb))
  go_wp2_with fail
  go_ret
  exact ⟨rfl, (by repeat' (first | (with_reducible assumption) | (with_reducible exact Below.refl _ _) | (with_reducible refine below_drewN ?_ _) | (with_reducible refine Below.drew ?_)))⟩
set_option maxRecDepth 100000 in
set_option maxHeartbeats 4000000 in
theorem add_num3 (nd : Nd w b vl vr 11) (hl : Kn w vl ls lr (.slice la ll lc)) (hr : Kn w vr rs rr (.slice ra rl rc)) (hxl : lr < 18446744073709551616) (hxr : rr < 18446744073709551616) (ht1 : bT lr = true) (ha1 : bA lr 4751297606873776128 = true) (ht2 : bT rr = true) (ha2 : bA rr 4751297606873776128 = false) (hls : ls = false) (hrs : rs = false) : Ans false b w := by
  have HF := Lib.hid (fun W (o : Below w.heap.size w W) => nd.four o)
  have H10 := fun W (o : Below w.heap.size w W) => Lib.hid (ex10 W (hl.below o) (hr.below o))
  have H13 := fun W (o : Below w.heap.size w W) => Lib.hid (ex13 W (hl.below o) (hr.below o))
  have H17 := Lib.hid ((hl.2 w (.of_below (Below.refl _ _))).prim)
  subst hls hrs
  unfold N2 at H10
  simp only [Bool.or_self, Bool.false_eq_true, if_false, Bool.not_false] at H10
  simp only [Bool.and_self] at H13
  have c0 := nd.c0
  have c1 := nd.c1
  have c2 := nd.c2
  have c3 := nd.c3
  have c4 := nd.c4
  have hlt := nd.lt
  obtain ⟨Tl, xl, rfl⟩ := hl.1
  obtain ⟨Tr, xr, rfl⟩ := hr.1
  clear nd hl hr
  unfold bA at ha1
  unfold bA at ha2
  go_enter Try.func9, Try.ntmps9
  go_wp2_with fail
  go_region_held3 (fun w' => w'.cell? ⟨b, 0, none⟩ = some (.iface Tl xl) ∧ w'.cell? ⟨b, 1, none⟩ = some (.int .i32 0) ∧ w'.cell? ⟨b, 2, none⟩ = some (.iface Tr xr) ∧ w'.cell? ⟨b, 3, none⟩ = some (.int .i32 0)) (first | assumption | exact HF.out _ (by go_grown) | exact HF.out _ (by repeat' (first | (with_reducible assumption) | (with_reducible exact Below.refl _ _) | (with_reducible refine below_drewN ?_ _) | (with_reducible refine Below.drew ?_)))) (first | (go_at_call 10; (with_reducible refine ((H10 _ (by repeat' (first | (with_reducible assumption) | (with_reducible exact Below.refl _ _) | (with_reducible refine below_drewN ?_ _) | (with_reducible refine Below.drew ?_)))).out).mono ?_); rintro _ wa ⟨rfl, hb⟩; have hba : Below w.heap.size w wa := ((by repeat' (first | (with_reducible assumption) | (with_reducible exact Below.refl _ _) | (with_reducible refine below_drewN ?_ _) | (with_reducible refine Below.drew ?_))) : Below w.heap.size w _).trans (hb.mono (by first | exact Nat.le_refl _ | (simp; done) | (simp; omega))); have hS := HF.out _ hba; have zba := hba.size; clear hb))
  go_wp2_with (first
    | (go_at_call 11; (with_reducible refine (trunc11 lr _).mono ?_); rintro _ _ ⟨x1, n1, rfl, e1, rfl⟩; rw [ht1] at e1)
    | (go_at_call 11; (with_reducible refine (trunc11 rr _).mono ?_); rintro _ _ ⟨x2, n2, rfl, e2, rfl⟩; rw [ht2] at e2)
    | (go_at_call 12; (with_reducible refine (abs lr hxl _).mono ?_); rintro _ _ ⟨rfl, rfl⟩)
    | (go_at_call 12; (with_reducible refine (abs rr hxr _).mono ?_); rintro _ _ ⟨rfl, rfl⟩))
  go_region_held3 (fun w' => w'.cell? ⟨b, 0, none⟩ = some (.iface Tl xl) ∧ w'.cell? ⟨b, 1, none⟩ = some (.int .i32 0) ∧ w'.cell? ⟨b, 2, none⟩ = some (.iface Tr xr) ∧ w'.cell? ⟨b, 3, none⟩ = some (.int .i32 0)) (first | assumption | exact HF.out _ (by go_grown) | exact HF.out _ (by repeat' (first | (with_reducible assumption) | (with_reducible exact Below.refl _ _) | (with_reducible refine below_drewN ?_ _) | (with_reducible refine Below.drew ?_)))) (first | (go_at_call 13; (with_reducible refine ((H13 _ (by repeat' (first | (with_reducible assumption) | (with_reducible exact Below.refl _ _) | (with_reducible refine below_drewN ?_ _) | (with_reducible refine Below.drew ?_)))).out).mono ?_); rintro _ wb ⟨⟨a1, l1, k1, a2, l2, k2, rfl⟩, hb⟩; have hbb : Below w.heap.size w wb := ((by repeat' (first | (with_reducible assumption) | (with_reducible exact Below.refl _ _) | (with_reducible refine below_drewN ?_ _) | (with_reducible refine Below.drew ?_))) : Below w.heap.size w _).trans (hb.mono (by first | exact Nat.le_refl _ | (simp; done) | (simp; omega))); have hS2 := HF.out _ hbb; clear hb))
  go_wp2_with fail
  go_ret
  exact ⟨rfl, (by repeat' (first | (with_reducible assumption) | (with_reducible exact Below.refl _ _) | (with_reducible refine below_drewN ?_ _) | (with_reducible refine Below.drew ?_)))⟩
set_option maxRecDepth 100000 in
set_option maxHeartbeats 4000000 in
theorem add_num4 (nd : Nd w b vl vr 11) (hl : Kn w vl ls lr (.slice la ll lc)) (hr : Kn w vr rs rr (.slice ra rl rc)) (hxl : lr < 18446744073709551616) (hxr : rr < 18446744073709551616) (ht1 : bT lr = true) (ha1 : bA lr 4751297606873776128 = true) (ht2 : bT rr = true) (ha2 : bA rr 4751297606873776128 = true) (hls : ls = false) (hrs : rs = false) : Ans true b w := by
  have HF := Lib.hid (fun W (o : Below w.heap.size w W) => nd.four o)
  have H10 := fun W (o : Below w.heap.size w W) => Lib.hid (ex10 W (hl.below o) (hr.below o))
  have H13 := fun W (o : Below w.heap.size w W) => Lib.hid (ex13 W (hl.below o) (hr.below o))
  have H17 := Lib.hid ((hl.2 w (.of_below (Below.refl _ _))).prim)
  subst hls hrs
  unfold N2 at H10
  simp only [Bool.or_self, Bool.false_eq_true, if_false, Bool.not_false] at H10
  simp only [Bool.and_self] at H13
  have c0 := nd.c0
  have c1 := nd.c1
  have c2 := nd.c2
  have c3 := nd.c3
  have c4 := nd.c4
  have hlt := nd.lt
  obtain ⟨Tl, xl, rfl⟩ := hl.1
  obtain ⟨Tr, xr, rfl⟩ := hr.1
  clear nd hl hr
  unfold bA at ha1
  unfold bA at ha2
  go_enter Try.func9, Try.ntmps9
  go_wp2_with fail
  go_region_held3 (fun w' => w'.cell? ⟨b, 0, none⟩ = some (.iface Tl xl) ∧ w'.cell? ⟨b, 1, none⟩ = some (.int .i32 0) ∧ w'.cell? ⟨b, 2, none⟩ = some (.iface Tr xr) ∧ w'.cell? ⟨b, 3, none⟩ = some (.int .i32 0)) (first | assumption | exact HF.out _ (by go_grown) | exact HF.out _ (by repeat' (first | (with_reducible assumption) | (with_reducible exact Below.refl _ _) | (with_reducible refine below_drewN ?_ _) | (with_reducible refine Below.drew ?_)))) (first | (go_at_call 10; (with_reducible refine ((H10 _ (by repeat' (first | (with_reducible assumption) | (with_reducible exact Below.refl _ _) | (with_reducible refine below_drewN ?_ _) | (with_reducible refine Below.drew ?_)))).out).mono ?_); rintro _ wa ⟨rfl, hb⟩; have hba : Below w.heap.size w wa := ((by repeat' (first | (with_reducible assumption) | (with_reducible exact Below.refl _ _) | (with_reducible refine below_drewN ?_ _) | (with_reducible refine Below.drew ?_))) : Below w.heap.size w _).trans (hb.mono (by first | exact Nat.le_refl _ | (simp; done) | (simp; omega))); have hS := HF.out _ hba; have zba := hba.size; clear hb))
  go_wp2_with (first
    | (go_at_call 11; (with_reducible refine (trunc11 lr _).mono ?_); rintro _ _ ⟨x1, n1, rfl, e1, rfl⟩; rw [ht1] at e1)
    | (go_at_call 11; (with_reducible refine (trunc11 rr _).mono ?_); rintro _ _ ⟨x2, n2, rfl, e2, rfl⟩; rw [ht2] at e2)
    | (go_at_call 12; (with_reducible refine (abs lr hxl _).mono ?_); rintro _ _ ⟨rfl, rfl⟩)
    | (go_at_call 12; (with_reducible refine (abs rr hxr _).mono ?_); rintro _ _ ⟨rfl, rfl⟩))
  go_ret
  exact ⟨rfl, (by repeat' (first | (with_reducible assumption) | (with_reducible exact Below.refl _ _) | (with_reducible refine below_drewN ?_ _) | (with_reducible refine Below.drew ?_)))⟩
set_option maxRecDepth 100000 in
set_option maxHeartbeats 4000000 in
theorem sub_num0 (nd : Nd w b vl vr 12) (hl : Kn w vl ls lr (.slice la ll lc)) (hr : Kn w vr rs rr (.slice ra rl rc)) (hxl : lr < 18446744073709551616) (hxr : rr < 18446744073709551616) (ht1 : bT lr = false) (hls : ls = false) (hrs : rs = false) : Ans false b w := by
  have HF := Lib.hid (fun W (o : Below w.heap.size w W) => nd.four o)
  have H10 := fun W (o : Below w.heap.size w W) => Lib.hid (ex10 W (hl.below o) (hr.below o))
  have H13 := fun W (o : Below w.heap.size w W) => Lib.hid (ex13 W (hl.below o) (hr.below o))
  have H17 := Lib.hid ((hl.2 w (.of_below (Below.refl _ _))).prim)
  subst hls hrs
  unfold N2 at H10
  simp only [Bool.or_self, Bool.false_eq_true, if_false, Bool.not_false] at H10
  simp only [Bool.and_self] at H13
  have c0 := nd.c0
  have c1 := nd.c1
  have c2 := nd.c2
  have c3 := nd.c3
  have c4 := nd.c4
  have hlt := nd.lt
  obtain ⟨Tl, xl, rfl⟩ := hl.1
  obtain ⟨Tr, xr, rfl⟩ := hr.1
  clear nd hl hr
  go_enter Try.func9, Try.ntmps9
  go_wp2_with fail
  go_region_held3 (fun w' => w'.cell? ⟨b, 0, none⟩ = some (.iface Tl xl) ∧ w'.cell? ⟨b, 1, none⟩ = some (.int .i32 0) ∧ w'.cell? ⟨b, 2, none⟩ = some (.iface Tr xr) ∧ w'.cell? ⟨b, 3, none⟩ = some (.int .i32 0)) (first | assumption | exact HF.out _ (by go_grown) | exact HF.out _ (by repeat' (first | (with_reducible assumption) | (with_reducible exact Below.refl _ _) | (with_reducible refine below_drewN ?_ _) | (with_reducible refine Below.drew ?_)))) (first | (go_at_call 10; (with_reducible refine ((H10 _ (by repeat' (first | (with_reducible assumption) | (with_reducible exact Below.refl _ _) | (with_reducible refine below_drewN ?_ _) | (with_reducible refine Below.drew ?_)))).out).mono ?_); rintro _ wa ⟨rfl, hb⟩; have hba : Below w.heap.size w wa := ((by repeat' (first | (with_reducible assumption) | (with_reducible exact Below.refl _ _) | (with_reducible refine below_drewN ?_ _) | (with_reducible refine Below.drew ?_))) : Below w.heap.size w _).trans (hb.mono (by first | exact Nat.le_refl _ | (simp; done) | (simp; omega))); have hS := HF.out _ hba; have zba := hba.size; clear hb))
  go_wp2_with (first
    | (go_at_call 11; (with_reducible refine (trunc11 lr _).mono ?_); rintro _ _ ⟨x1, n1, rfl, e1, rfl⟩; rw [ht1] at e1)
    | (go_at_call 11; (with_reducible refine (trunc11 rr _).mono ?_); rintro _ _ ⟨x2, n2, rfl, e2, rfl⟩; rw [ht2] at e2)
    | (go_at_call 12; (with_reducible refine (abs lr hxl _).mono ?_); rintro _ _ ⟨rfl, rfl⟩)
    | (go_at_call 12; (with_reducible refine (abs rr hxr _).mono ?_); rintro _ _ ⟨rfl, rfl⟩))
  go_ret
  exact ⟨rfl, (by repeat' (first | (with_reducible assumption) | (with_reducible exact Below.refl _ _) | (with_reducible refine below_drewN ?_ _) | (with_reducible refine Below.drew ?_)))⟩
set_option maxRecDepth 100000 in
set_option maxHeartbeats 4000000 in
theorem sub_num1 (nd : Nd w b vl vr 12) (hl : Kn w vl ls lr (.slice la ll lc)) (hr : Kn w vr rs rr (.slice ra rl rc)) (hxl : lr < 18446744073709551616) (hxr : rr < 18446744073709551616) (ht1 : bT lr = true) (ha1 : bA lr 4751297606873776128 = false) (hls : ls = false) (hrs : rs = false) : Ans false b w := by
  have HF := Lib.hid (fun W (o : Below w.heap.size w W) => nd.four o)
  have H10 := fun W (o : Below w.heap.size w W) => Lib.hid (ex10 W (hl.below o) (hr.below o))
  have H13 := fun W (o : Below w.heap.size w W) => Lib.hid (ex13 W (hl.below o) (hr.below o))
  have H17 := Lib.hid ((hl.2 w (.of_below (Below.refl _ _))).prim)
  subst hls hrs
  unfold N2 at H10
  simp only [Bool.or_self, Bool.false_eq_true, if_false, Bool.not_false] at H10
  simp only [Bool.and_self] at H13
  have c0 := nd.c0
  have c1 := nd.c1
  have c2 := nd.c2
  have c3 := nd.c3
  have c4 := nd.c4
  have hlt := nd.lt
  obtain ⟨Tl, xl, rfl⟩ := hl.1
  obtain ⟨Tr, xr, rfl⟩ := hr.1
  clear nd hl hr
  unfold bA at ha1
  go_enter Try.func9, Try.ntmps9
  go_wp2_with fail
  go_region_held3 (fun w' => w'.cell? ⟨b, 0, none⟩ = some (.iface Tl xl) ∧ w'.cell? ⟨b, 1, none⟩ = some (.int .i32 0) ∧ w'.cell? ⟨b, 2, none⟩ = some (.iface Tr xr) ∧ w'.cell? ⟨b, 3, none⟩ = some (.int .i32 0)) (first | assumption | exact HF.out _ (by go_grown) | exact HF.out _ (by repeat' (first | (with_reducible assumption) | (with_reducible exact Below.refl _ _) | (with_reducible refine below_drewN ?_ _) | (with_reducible refine Below.drew ?_)))) (first | (go_at_call 10; (with_reducible refine ((H10 _ (by repeat' (first | (with_reducible assumption) | (with_reducible exact Below.refl _ _) | (with_reducible refine below_drewN ?_ _) | (with_reducible refine Below.drew ?_)))).out).mono ?_); rintro _ wa ⟨rfl, hb⟩; have hba : Below w.heap.size w wa := ((by repeat' (first | (with_reducible assumption) | (with_reducible exact Below.refl _ _) | (with_reducible refine below_drewN ?_ _) | (with_reducible refine Below.drew ?_))) : Below w.heap.size w _).trans (hb.mono (by first | exact Nat.le_refl _ | (simp; done) | (simp; omega))); have hS := HF.out _ hba; have zba := hba.size; clear hb))
  go_wp2_with (first
    | (go_at_call 11; (with_reducible refine (trunc11 lr _).mono ?_); rintro _ _ ⟨x1, n1, rfl, e1, rfl⟩; rw [ht1] at e1)
    | (go_at_call 11; (with_reducible refine (trunc11 rr _).mono ?_); rintro _ _ ⟨x2, n2, rfl, e2, rfl⟩; rw [ht2] at e2)
    | (go_at_call 12; (with_reducible refine (abs lr hxl _).mono ?_); rintro _ _ ⟨rfl, rfl⟩)
    | (go_at_call 12; (with_reducible refine (abs rr hxr _).mono ?_); rintro _ _ ⟨rfl, rfl⟩))
  go_ret
  exact ⟨rfl, (by repeat' (first | (with_reducible assumption) | (with_reducible exact Below.refl _ _) | (with_reducible refine below_drewN ?_ _) | (with_reducible refine Below.drew ?_)))⟩
set_option maxRecDepth 100000 in
set_option maxHeartbeats 4000000 in
theorem sub_num2 (nd : Nd w b vl vr 12) (hl : Kn w vl ls lr (.slice la ll lc)) (hr : Kn w vr rs rr (.slice ra rl rc)) (hxl : lr < 18446744073709551616) (hxr : rr < 18446744073709551616) (ht1 : bT lr = true) (ha1 : bA lr 4751297606873776128 = true) (ht2 : bT rr = false) (hls : ls = false) (hrs : rs = false) : Ans false b w := by
  have HF := Lib.hid (fun W (o : Below w.heap.size w W) => nd.four o)
  have H10 := fun W (o : Below w.heap.size w W) => Lib.hid (ex10 W (hl.below o) (hr.below o))
  have H13 := fun W (o : Below w.heap.size w W) => Lib.hid (ex13 W (hl.below o) (hr.below o))
  have H17 := Lib.hid ((hl.2 w (.of_below (Below.refl _ _))).prim)
  subst hls hrs
  unfold N2 at H10
  simp only [Bool.or_self, Bool.false_eq_true, if_false, Bool.not_false] at H10
  simp only [Bool.and_self] at H13
  have c0 := nd.c0
  have c1 := nd.c1
  have c2 := nd.c2
  have c3 := nd.c3
  have c4 := nd.c4
  have hlt := nd.lt
  obtain ⟨Tl, xl, rfl⟩ := hl.1
  obtain ⟨Tr, xr, rfl⟩ := hr.1
  clear nd hl hr
  unfold bA at ha1
  go_enter Try.func9, Try.ntmps9
  go_wp2_with fail
  go_region_held3 (fun w' => w'.cell? ⟨b, 0, none⟩ = some (.iface Tl xl) ∧ w'.cell? ⟨b, 1, none⟩ = some (.int .i32 0) ∧ w'.cell? ⟨b, 2, none⟩ = some (.iface Tr xr) ∧ w'.cell? ⟨b, 3, none⟩ = some (.int .i32 0)) (first | assumption | exact HF.out _ (by go_grown) | exact HF.out _ (by repeat' (first | (with_reducible assumption) | (with_reducible exact Below.refl _ _) | (with_reducible refine below_drewN ?_ _) | (with_reducible refine Below.drew ?_)))) (first | (go_at_call 10; (with_reducible refine ((H10 _ (by repeat' (first | (with_reducible assumption) | (with_reducible exact Below.refl _ _) | (with_reducible refine below_drewN ?_ _) | (with_reducible refine Below.drew ?_)))).out).mono ?_); rintro _ wa ⟨rfl, hb⟩; have hba : Below w.heap.size w wa := ((by repeat' (first | (with_reducible assumption) | (with_reducible exact Below.refl _ _) | (with_reducible refine below_drewN ?_ _) | (with_reducible refine Below.drew ?_))) : Below w.heap.size w _).trans (hb.mono (by first | exact Nat.le_refl _ | (simp; done) | (simp; omega))); have hS := HF.out _ hba; have zba := hba.size; clear hb))
  go_wp2_with (first
    | (go_at_call 11; (with_reducible refine (trunc11 lr _).mono ?_); rintro _ _ ⟨x1, n1, rfl, e1, rfl⟩; rw [ht1] at e1)
    | (go_at_call 11; (with_reducible refine (trunc11 rr _).mono ?_); rintro _ _ ⟨x2, n2, rfl, e2, rfl⟩; rw [ht2] at e2)
    | (go_at_call 12; (with_reducible refine (abs lr hxl _).mono ?_); rintro _ _ ⟨rfl, rfl⟩)
    | (go_at_call 12; (with_reducible refine (abs rr hxr _).mono ?_); rintro _ _ ⟨rfl, rfl⟩))
  go_ret
  exact ⟨rfl, (by repeat' (first | (with_reducible assumption) | (with_reducible exact Below.refl _ _) | (with_reducible refine below_drewN ?_ _) | (with_reducible refine Below.drew ?_)))⟩
set_option maxRecDepth 100000 in
set_option maxHeartbeats 4000000 in
theorem sub_num3 (nd : Nd w b vl vr 12) (hl : Kn w vl ls lr (.slice la ll lc)) (hr : Kn w vr rs rr (.slice ra rl rc)) (hxl : lr < 18446744073709551616) (hxr : rr < 18446744073709551616) (ht1 : bT lr = true) (ha1 : bA lr 4751297606873776128 = true) (ht2 : bT rr = true) (ha2 : bA rr 4751297606873776128 = false) (hls : ls = false) (hrs : rs = false) : Ans false b w := by
  have HF := Lib.hid (fun W (o : Below w.heap.size w W) => nd.four o)
  have H10 := fun W (o : Below w.heap.size w W) => Lib.hid (ex10 W (hl.below o) (hr.below o))
  have H13 := fun W (o : Below w.heap.size w W) => Lib.hid (ex13 W (hl.below o) (hr.below o))
  have H17 := Lib.hid ((hl.2 w (.of_below (Below.refl _ _))).prim)
  subst hls hrs
  unfold N2 at H10
  simp only [Bool.or_self, Bool.false_eq_true, if_false, Bool.not_false] at H10
  simp only [Bool.and_self] at H13
  have c0 := nd.c0
  have c1 := nd.c1
  have c2 := nd.c2
  have c3 := nd.c3
  have c4 := nd.c4
  have hlt := nd.lt
  obtain ⟨Tl, xl, rfl⟩ := hl.1
  obtain ⟨Tr, xr, rfl⟩ := hr.1
  clear nd hl hr
  unfold bA at ha1
  unfold bA at ha2
  go_enter Try.func9, Try.ntmps9
  go_wp2_with fail
  go_region_held3 (fun w' => w'.cell? ⟨b, 0, none⟩ = some (.iface Tl xl) ∧ w'.cell? ⟨b, 1, none⟩ = some (.int .i32 0) ∧ w'.cell? ⟨b, 2, none⟩ = some (.iface Tr xr) ∧ w'.cell? ⟨b, 3, none⟩ = some (.int .i32 0)) (first | assumption | exact HF.out _ (by go_grown) | exact HF.out _ (by repeat' (first | (with_reducible assumption) | (with_reducible exact Below.refl _ _) | (with_reducible refine below_drewN ?_ _) | (with_reducible refine Below.drew ?_)))) (first | (go_at_call 10; (with_reducible refine ((H10 _ (by repeat' (first | (with_reducible assumption) | (with_reducible exact Below.refl _ _) | (with_reducible refine below_drewN ?_ _) | (with_reducible refine Below.drew ?_)))).out).mono ?_); rintro _ wa ⟨rfl, hb⟩; have hba : Below w.heap.size w wa := ((by repeat' (first | (with_reducible assumption) | (with_reducible exact Below.refl _ _) | (with_reducible refine below_drewN ?_ _) | (with_reducible refine Below.drew ?_))) : Below w.heap.size w _).trans (hb.mono (by first | exact Nat.le_refl _ | (simp; done) | (simp; omega))); have hS := HF.out _ hba; have zba := hba.size; clear hb))
  go_wp2_with (first
    | (go_at_call 11; (with_reducible refine (trunc11 lr _).mono ?_); rintro _ _ ⟨x1, n1, rfl, e1, rfl⟩; rw [ht1] at e1)
    | (go_at_call 11; (with_reducible refine (trunc11 rr _).mono ?_); rintro _ _ ⟨x2, n2, rfl, e2, rfl⟩; rw [ht2] at e2)
    | (go_at_call 12; (with_reducible refine (abs lr hxl _).mono ?_); rintro _ _ ⟨rfl, rfl⟩)
    | (go_at_call 12; (with_reducible refine (abs rr hxr _).mono ?_); rintro _ _ ⟨rfl, rfl⟩))
  go_ret
  exact ⟨rfl, (by repeat' (first | (with_reducible assumption) | (with_reducible exact Below.refl _ _) | (with_reducible refine below_drewN ?_ _) | (with_reducible refine Below.drew ?_)))⟩
set_option maxRecDepth 100000 in
set_option maxHeartbeats 4000000 in
theorem sub_num4 (nd : Nd w b vl vr 12) (hl : Kn w vl ls lr (.slice la ll lc)) (hr : Kn w vr rs rr (.slice ra rl rc)) (hxl : lr < 18446744073709551616) (hxr : rr < 18446744073709551616) (ht1 : bT lr = true) (ha1 : bA lr 4751297606873776128 = true) (ht2 : bT rr = true) (ha2 : bA rr 4751297606873776128 = true) (hls : ls = false) (hrs : rs = false) : Ans true b w := by
  have HF := Lib.hid (fun W (o : Below w.heap.size w W) => nd.four o)
  have H10 := fun W (o : Below w.heap.size w W) => Lib.hid (ex10 W (hl.below o) (hr.below o))
  have H13 := fun W (o : Below w.heap.size w W) => Lib.hid (ex13 W (hl.below o) (hr.below o))
  have H17 := Lib.hid ((hl.2 w (.of_below (Below.refl _ _))).prim)
  subst hls hrs
  unfold N2 at H10
  simp only [Bool.or_self, Bool.false_eq_true, if_false, Bool.not_false] at H10
  simp only [Bool.and_self] at H13
  have c0 := nd.c0
  have c1 := nd.c1
  have c2 := nd.c2
  have c3 := nd.c3
  have c4 := nd.c4
  have hlt := nd.lt
  obtain ⟨Tl, xl, rfl⟩ := hl.1
  obtain ⟨Tr, xr, rfl⟩ := hr.1
  clear nd hl hr
  unfold bA at ha1
  unfold bA at ha2
  go_enter Try.func9, Try.ntmps9
  go_wp2_with fail
  go_region_held3 (fun w' => w'.cell? ⟨b, 0, none⟩ = some (.iface Tl xl) ∧ w'.cell? ⟨b, 1, none⟩ = some (.int .i32 0) ∧ w'.cell? ⟨b, 2, none⟩ = some (.iface Tr xr) ∧ w'.cell? ⟨b, 3, none⟩ = some (.int .i32 0)) (first | assumption | exact HF.out _ (by go_grown) | exact HF.out _ (by repeat' (first | (with_reducible assumption) | (with_reducible exact Below.refl _ _) | (with_reducible refine below_drewN ?_ _) | (with_reducible refine Below.drew ?_)))) (first | (go_at_call 10; (with_reducible refine ((H10 _ (by repeat' (first | (with_reducible assumption) | (with_reducible exact Below.refl _ _) | (with_reducible refine below_drewN ?_ _) | (with_reducible refine Below.drew ?_)))).out).mono ?_); rintro _ wa ⟨rfl, hb⟩; have hba : Below w.heap.size w wa := ((by repeat' (first | (with_reducible assumption) | (with_reducible exact Below.refl _ _) | (with_reducible refine below_drewN ?_ _) | (with_reducible refine Below.drew ?_))) : Below w.heap.size w _).trans (hb.mono (by first | exact Nat.le_refl _ | (simp; done) | (simp; omega))); have hS := HF.out _ hba; have zba := hba.size; clear hb))
  go_wp2_with (first
    | (go_at_call 11; (with_reducible refine (trunc11 lr _).mono ?_); rintro _ _ ⟨x1, n1, rfl, e1, rfl⟩; rw [ht1] at e1)
    | (go_at_call 11; (with_reducible refine (trunc11 rr _).mono ?_); rintro _ _ ⟨x2, n2, rfl, e2, rfl⟩; rw [ht2] at e2)
    | (go_at_call 12; (with_reducible refine (abs lr hxl _).mono ?_); rintro _ _ ⟨rfl, rfl⟩)
    | (go_at_call 12; (with_reducible refine (abs rr hxr _).mono ?_); rintro _ _ ⟨rfl, rfl⟩))
  go_ret
  exact ⟨rfl, (by repeat' (first | (with_reducible assumption) | (with_reducible exact Below.refl _ _) | (with_reducible refine below_drewN ?_ _) | (with_reducible refine Below.drew ?_)))⟩
set_option maxRecDepth 100000 in
set_option maxHeartbeats 4000000 in
theorem mul_num0 (nd : Nd w b vl vr 13) (hl : Kn w vl ls lr (.slice la ll lc)) (hr : Kn w vr rs rr (.slice ra rl rc)) (hxl : lr < 18446744073709551616) (hxr : rr < 18446744073709551616) (ht1 : bT lr = false) (hls : ls = false) (hrs : rs = false) : Ans false b w := by
  have HF := Lib.hid (fun W (o : Below w.heap.size w W) => nd.four o)
  have H10 := fun W (o : Below w.heap.size w W) => Lib.hid (ex10 W (hl.below o) (hr.below o))
  have H13 := fun W (o : Below w.heap.size w W) => Lib.hid (ex13 W (hl.below o) (hr.below o))
  have H17 := Lib.hid ((hl.2 w (.of_below (Below.refl _ _))).prim)
  subst hls hrs
  unfold N2 at H10
  simp only [Bool.or_self, Bool.false_eq_true, if_false, Bool.not_false] at H10
  simp only [Bool.and_self] at H13
  have c0 := nd.c0
  have c1 := nd.c1
  have c2 := nd.c2
  have c3 := nd.c3
  have c4 := nd.c4
  have hlt := nd.lt
  obtain ⟨Tl, xl, rfl⟩ := hl.1
  obtain ⟨Tr, xr, rfl⟩ := hr.1
  clear nd hl hr
  go_enter Try.func9, Try.ntmps9
  go_wp2_with fail
  go_region_held3 (fun w' => w'.cell? ⟨b, 0, none⟩ = some (.iface Tl xl) ∧ w'.cell? ⟨b, 1, none⟩ = some (.int .i32 0) ∧ w'.cell? ⟨b, 2, none⟩ = some (.iface Tr xr) ∧ w'.cell? ⟨b, 3, none⟩ = some (.int .i32 0)) (first | assumption | exact HF.out _ (by go_grown) | exact HF.out _ (by repeat' (first | (with_reducible assumption) | (with_reducible exact Below.refl _ _) | (with_reducible refine below_drewN ?_ _) | (with_reducible refine Below.drew ?_)))) (first | (go_at_call 10; (with_reducible refine ((H10 _ (by repeat' (first | (with_reducible assumption) | (with_reducible exact Below.refl _ _) | (with_reducible refine below_drewN ?_ _) | (with_reducible refine Below.drew ?_)))).out).mono ?_); rintro _ wa ⟨rfl, hb⟩; have hba : Below w.heap.size w wa := ((by repeat' (first | (with_reducible assumption) | (with_reducible exact Below.refl _ _) | (with_reducible refine below_drewN ?_ _) | (with_reducible refine Below.drew ?_))) : Below w.heap.size w _).trans (hb.mono (by first | exact Nat.le_refl _ | (simp; done) | (simp; omega))); have hS := HF.out _ hba; have zba := hba.size; clear hb))
  go_wp2_with (first
    | (go_at_call 11; (with_reducible refine (trunc11 lr _).mono ?_); rintro _ _ ⟨x1, n1, rfl, e1, rfl⟩; rw [ht1] at e1)
    | (go_at_call 11; (with_reducible refine (trunc11 rr _).mono ?_); rintro _ _ ⟨x2, n2, rfl, e2, rfl⟩; rw [ht2] at e2)
    | (go_at_call 12; (with_reducible refine (abs lr hxl _).mono ?_); rintro _ _ ⟨rfl, rfl⟩)
    | (go_at_call 12; (with_reducible refine (abs rr hxr _).mono ?_); rintro _ _ ⟨rfl, rfl⟩))
  go_ret
  exact ⟨rfl, (by repeat' (first | (with_reducible assumption) | (with_reducible exact Below.refl _ _) | (with_reducible refine below_drewN ?_ _) | (with_reducible refine Below.drew ?_)))⟩
set_option maxRecDepth 100000 in
set_option maxHeartbeats 4000000 in
theorem mul_num1 (nd : Nd w b vl vr 13) (hl : Kn w vl ls lr (.slice la ll lc)) (hr : Kn w vr rs rr (.slice ra rl rc)) (hxl : lr < 18446744073709551616) (hxr : rr < 18446744073709551616) (ht1 : bT lr = true) (ha1 : bA lr 4643176031446892544 = false) (hls : ls = false) (hrs : rs = false) : Ans false b w := by
  have HF := Lib.hid (fun W (o : Below w.heap.size w W) => nd.four o)
  have H10 := fun W (o : Below w.heap.size w W) => Lib.hid (ex10 W (hl.below o) (hr.below o))
  have H13 := fun W (o : Below w.heap.size w W) => Lib.hid (ex13 W (hl.below o) (hr.below o))
  have H17 := Lib.hid ((hl.2 w (.of_below (Below.refl _ _))).prim)
  subst hls hrs
  unfold N2 at H10
  simp only [Bool.or_self, Bool.false_eq_true, if_false, Bool.not_false] at H10
  simp only [Bool.and_self] at H13
  have c0 := nd.c0
  have c1 := nd.c1
  have c2 := nd.c2
  have c3 := nd.c3
  have c4 := nd.c4
  have hlt := nd.lt
  obtain ⟨Tl, xl, rfl⟩ := hl.1
  obtain ⟨Tr, xr, rfl⟩ := hr.1
  clear nd hl hr
  unfold bA at ha1
  go_enter Try.func9, Try.ntmps9
  go_wp2_with fail
  go_region_held3 (fun w' => w'.cell? ⟨b, 0, none⟩ = some (.iface Tl xl) ∧ w'.cell? ⟨b, 1, none⟩ = some (.int .i32 0) ∧ w'.cell? ⟨b, 2, none⟩ = some (.iface Tr xr) ∧ w'.cell? ⟨b, 3, none⟩ = some (.int .i32 0)) (first | assumption | exact HF.out _ (by go_grown) | exact HF.out _ (by repeat' (first | (with_reducible assumption) | (with_reducible exact Below.refl _ _) | (with_reducible refine below_drewN ?_ _) | (with_reducible refine Below.drew ?_)))) (first | (go_at_call 10; (with_reducible refine ((H10 _ (by repeat' (first | (with_reducible assumption) | (with_reducible exact Below.refl _ _) | (with_reducible refine below_drewN ?_ _) | (with_reducible refine Below.drew ?_)))).out).mono ?_); rintro _ wa ⟨rfl, hb⟩; have hba : Below w.heap.size w wa := ((by repeat' (first | (with_reducible assumption) | (with_reducible exact Below.refl _ _) | (with_reducible refine below_drewN ?_ _) | (with_reducible refine Below.drew ?_))) : Below w.heap.size w _).trans (hb.mono (by first | exact Nat.le_refl _ | (simp; done) | (simp; omega))); have hS := HF.out _ hba; have zba := hba.size; clear hb))
  go_wp2_with (first
    | (go_at_call 11; (with_reducible refine (trunc11 lr _).mono ?_); rintro _ _ ⟨x1, n1, rfl, e1, rfl⟩; rw [ht1] at e1)
    | (go_at_call 11; (with_reducible refine (trunc11 rr _).mono ?_); rintro _ _ ⟨x2, n2, rfl, e2, rfl⟩; rw [ht2] at e2)
    | (go_at_call 12; (with_reducible refine (abs lr hxl _).mono ?_); rintro _ _ ⟨rfl, rfl⟩)
    | (go_at_call 12; (with_reducible refine (abs rr hxr _).mono ?_); rintro _ _ ⟨rfl, rfl⟩))
  go_ret
  exact ⟨rfl, (by repeat' (first | (with_reducible assumption) | (with_reducible exact Below.refl _ _) | (with_reducible refine below_drewN ?_ _) | (with_reducible refine Below.drew ?_)))⟩
set_option maxRecDepth 100000 in
set_option maxHeartbeats 4000000 in
theorem mul_num2 (nd : Nd w b vl vr 13) (hl : Kn w vl ls lr (.slice la ll lc)) (hr : Kn w vr rs rr (.slice ra rl rc)) (hxl : lr < 18446744073709551616) (hxr : rr < 18446744073709551616) (ht1 : bT lr = true) (ha1 : bA lr 4643176031446892544 = true) (ht2 : bT rr = false) (hls : ls = false) (hrs : rs = false) : Ans false b w := by
  have HF := Lib.hid (fun W (o : Below w.heap.size w W) => nd.four o)
  have H10 := fun W (o : Below w.heap.size w W) => Lib.hid (ex10 W (hl.below o) (hr.below o))
  have H13 := fun W (o : Below w.heap.size w W) => Lib.hid (ex13 W (hl.below o) (hr.below o))
  have H17 := Lib.hid ((hl.2 w (.of_below (Below.refl _ _))).prim)
  subst hls hrs
  unfold N2 at H10
  simp only [Bool.or_self, Bool.false_eq_true, if_false, Bool.not_false] at H10
  simp only [Bool.and_self] at H13
  have c0 := nd.c0
  have c1 := nd.c1
  have c2 := nd.c2
  have c3 := nd.c3
  have c4 := nd.c4
  have hlt := nd.lt
  obtain ⟨Tl, xl, rfl⟩ := hl.1
  obtain ⟨Tr, xr, rfl⟩ := hr.1
  clear nd hl hr
  unfold bA at ha1
  go_enter Try.func9, Try.ntmps9
  go_wp2_with fail
  go_region_held3 (fun w' => w'.cell? ⟨b, 0, none⟩ = some (.iface Tl xl) ∧ w'.cell? ⟨b, 1, none⟩ = some (.int .i32 0) ∧ w'.cell? ⟨b, 2, none⟩ = some (.iface Tr xr) ∧ w'.cell? ⟨b, 3, none⟩ = some (.int .i32 0)) (first | assumption | exact HF.out _ (by go_grown) | exact HF.out _ (by repeat' (first | (with_reducible assumption) | (with_reducible exact Below.refl _ _) | (with_reducible refine below_drewN ?_ _) | (with_reducible refine Below.drew ?_)))) (first | (go_at_call 10; (with_reducible refine ((H10 _ (by repeat' (first | (with_reducible assumption) | (with_reducible exact Below.refl _ _) | (with_reducible refine below_drewN ?_ _) | (with_reducible refine Below.drew ?_)))).out).mono ?_); rintro _ wa ⟨rfl, hb⟩; have hba : Below w.heap.size w wa := ((by repeat' (first | (with_reducible assumption) | (with_reducible exact Below.refl _ _) | (with_reducible refine below_drewN ?_ _) | (with_reducible refine Below.drew ?_))) : Below w.heap.size w _).trans (hb.mono (by first | exact Nat.le_refl _ | (simp; done) | (simp; omega))); have hS := HF.out _ hba; have zba := hba.size; clear hb))
  go_wp2_with (first
    | (go_at_call 11; (with_reducible refine (trunc11 lr _).mono ?_); rintro _ _ ⟨x1, n1, rfl, e1, rfl⟩; rw [ht1] at e1)
    | (go_at_call 11; (with_reducible refine (trunc11 rr _).mono ?_); rintro _ _ ⟨x2, n2, rfl, e2, rfl⟩; rw [ht2] at e2)
    | (go_at_call 12; (with_reducible refine (abs lr hxl _).mono ?_); rintro _ _ ⟨rfl, rfl⟩)
    | (go_at_call 12; (with_reducible refine (abs rr hxr _).mono ?_); rintro _ _ ⟨rfl, rfl⟩))
  go_ret
  exact ⟨rfl, (by repeat' (first | (with_reducible assumption) | (with_reducible exact Below.refl _ _) | (with_reducible refine below_drewN ?_ _) | (with_reducible refine Below.drew ?_)))⟩
set_option maxRecDepth 100000 in
set_option maxHeartbeats 4000000 in
theorem mul_num3 (nd : Nd w b vl vr 13) (hl : Kn w vl ls lr (.slice la ll lc)) (hr : Kn w vr rs rr (.slice ra rl rc)) (hxl : lr < 18446744073709551616) (hxr : rr < 18446744073709551616) (ht1 : bT lr = true) (ha1 : bA lr 4643176031446892544 = true) (ht2 : bT rr = true) (ha2 : bA rr 4643176031446892544 = false) (hls : ls = false) (hrs : rs = false) : Ans false b w := by
  have HF := Lib.hid (fun W (o : Below w.heap.size w W) => nd.four o)
  have H10 := fun W (o : Below w.heap.size w W) => Lib.hid (ex10 W (hl.below o) (hr.below o))
  have H13 := fun W (o : Below w.heap.size w W) => Lib.hid (ex13 W (hl.below o) (hr.below o))
  have H17 := Lib.hid ((hl.2 w (.of_below (Below.refl _ _))).prim)
  subst hls hrs
  unfold N2 at H10
  simp only [Bool.or_self, Bool.false_eq_true, if_false, Bool.not_false] at H10
  simp only [Bool.and_self] at H13
  have c0 := nd.c0
  have c1 := nd.c1
  have c2 := nd.c2
  have c3 := nd.c3
  have c4 := nd.c4
  have hlt := nd.lt
  obtain ⟨Tl, xl, rfl⟩ := hl.1
  obtain ⟨Tr, xr, rfl⟩ := hr.1
  clear nd hl hr
  unfold bA at ha1
  unfold bA at ha2
  go_enter Try.func9, Try.ntmps9
  go_wp2_with fail
  go_region_held3 (fun w' => w'.cell? ⟨b, 0, none⟩ = some (.iface Tl xl) ∧ w'.cell? ⟨b, 1, none⟩ = some (.int .i32 0) ∧ w'.cell? ⟨b, 2, none⟩ = some (.iface Tr xr) ∧ w'.cell? ⟨b, 3, none⟩ = some (.int .i32 0)) (first | assumption | exact HF.out _ (by go_grown) | exact HF.out _ (by repeat' (first | (with_reducible assumption) | (with_reducible exact Below.refl _ _) | (with_reducible refine below_drewN ?_ _) | (with_reducible refine Below.drew ?_)))) (first | (go_at_call 10; (with_reducible refine ((H10 _ (by repeat' (first | (with_reducible assumption) | (with_reducible exact Below.refl _ _) | (with_reducible refine below_drewN ?_ _) | (with_reducible refine Below.drew ?_)))).out).mono ?_); rintro _ wa ⟨rfl, hb⟩; have hba : Below w.heap.size w wa := ((by repeat' (first | (with_reducible assumption) | (with_reducible exact Below.refl _ _) | (with_reducible refine below_drewN ?_ _) | (with_reducible refine Below.drew ?_))) : Below w.heap.size w _).trans (hb.mono (by first | exact Nat.le_refl _ | (simp; done) | (simp; omega))); have hS := HF.out _ hba; have zba := hba.size; clear hb))
  go_wp2_with (first
    | (go_at_call 11; (with_reducible refine (trunc11 lr _).mono ?_); rintro _ _ ⟨x1, n1, rfl, e1, rfl⟩; rw [ht1] at e1)
    | (go_at_call 11; (with_reducible refine (trunc11 rr _).mono ?_); rintro _ _ ⟨x2, n2, rfl, e2, rfl⟩; rw [ht2] at e2)
    | (go_at_call 12; (with_reducible refine (abs lr hxl _).mono ?_); rintro _ _ ⟨rfl, rfl⟩)
    | (go_at_call 12; (with_reducible refine (abs rr hxr _).mono ?_); rintro _ _ ⟨rfl, rfl⟩))
  go_ret
  exact ⟨rfl, (by repeat' (first | (with_reducible assumption) | (with_reducible exact Below.refl _ _) | (with_reducible refine below_drewN ?_ _) | (with_reducible refine Below.drew ?_)))⟩
set_option maxRecDepth 100000 in
set_option maxHeartbeats 4000000 in
theorem mul_num4 (nd : Nd w b vl vr 13) (hl : Kn w vl ls lr (.slice la ll lc)) (hr : Kn w vr rs rr (.slice ra rl rc)) (hxl : lr < 18446744073709551616) (hxr : rr < 18446744073709551616) (ht1 : bT lr = true) (ha1 : bA lr 4643176031446892544 = true) (ht2 : bT rr = true) (ha2 : bA rr 4643176031446892544 = true) (hls : ls = false) (hrs : rs = false) : Ans true b w := by
  have HF := Lib.hid (fun W (o : Below w.heap.size w W) => nd.four o)
  have H10 := fun W (o : Below w.heap.size w W) => Lib.hid (ex10 W (hl.below o) (hr.below o))
  have H13 := fun W (o : Below w.heap.size w W) => Lib.hid (ex13 W (hl.below o) (hr.below o))
  have H17 := Lib.hid ((hl.2 w (.of_below (Below.refl _ _))).prim)
  subst hls hrs
  unfold N2 at H10
  simp only [Bool.or_self, Bool.false_eq_true, if_false, Bool.not_false] at H10
  simp only [Bool.and_self] at H13
  have c0 := nd.c0
  have c1 := nd.c1
  have c2 := nd.c2
  have c3 := nd.c3
  have c4 := nd.c4
  have hlt := nd.lt
  obtain ⟨Tl, xl, rfl⟩ := hl.1
  obtain ⟨Tr, xr, rfl⟩ := hr.1
  clear nd hl hr
  unfold bA at ha1
  unfold bA at ha2
  go_enter Try.func9, Try.ntmps9
  go_wp2_with fail
  go_region_held3 (fun w' => w'.cell? ⟨b, 0, none⟩ = some (.iface Tl xl) ∧ w'.cell? ⟨b, 1, none⟩ = some (.int .i32 0) ∧ w'.cell? ⟨b, 2, none⟩ = some (.iface Tr xr) ∧ w'.cell? ⟨b, 3, none⟩ = some (.int .i32 0)) (first | assumption | exact HF.out _ (by go_grown) | exact HF.out _ (by repeat' (first | (with_reducible assumption) | (with_reducible exact Below.refl _ _) | (with_reducible refine below_drewN ?_ _) | (with_reducible refine Below.drew ?_)))) (first | (go_at_call 10; (with_reducible refine ((H10 _ (by repeat' (first | (with_reducible assumption) | (with_reducible exact Below.refl _ _) | (with_reducible refine below_drewN ?_ _) | (with_reducible refine Below.drew ?_)))).out).mono ?_); rintro _ wa ⟨rfl, hb⟩; have hba : Below w.heap.size w wa := ((by repeat' (first | (with_reducible assumption) | (with_reducible exact Below.refl _ _) | (with_reducible refine below_drewN ?_ _) | (with_reducible refine Below.drew ?_))) : Below w.heap.size w _).trans (hb.mono (by first | exact Nat.le_refl _ | (simp; done) | (simp; omega))); have hS := HF.out _ hba; have zba := hba.size; clear hb))
  go_wp2_with (first
    | (go_at_call 11; (with_reducible refine (trunc11 lr _).mono ?_); rintro _ _ ⟨x1, n1, rfl, e1, rfl⟩; rw [ht1] at e1)
    | (go_at_call 11; (with_reducible refine (trunc11 rr _).mono ?_); rintro _ _ ⟨x2, n2, rfl, e2, rfl⟩; rw [ht2] at e2)
    | (go_at_call 12; (with_reducible refine (abs lr hxl _).mono ?_); rintro _ _ ⟨rfl, rfl⟩)
    | (go_at_call 12; (with_reducible refine (abs rr hxr _).mono ?_); rintro _ _ ⟨rfl, rfl⟩))
  go_ret
  exact ⟨rfl, (by repeat' (first | (with_reducible assumption) | (with_reducible exact Below.refl _ _) | (with_reducible refine below_drewN ?_ _) | (with_reducible refine Below.drew ?_)))⟩
set_option maxRecDepth 100000 in
set_option maxHeartbeats 4000000 in
theorem div_num_true (nd : Nd w b vl vr 14) (hl : Kn w vl ls lr (.slice la ll lc)) (hr : Kn w vr rs rr (.slice ra rl rc)) (h0 : (FloatKind.f64.format.order rr 0 == some .eq) = true) (hls : ls = false) (hrs : rs = false) : Ans true b w := by
  have HF := Lib.hid (fun W (o : Below w.heap.size w W) => nd.four o)
  have H10 := fun W (o : Below w.heap.size w W) => Lib.hid (ex10 W (hl.below o) (hr.below o))
  have H13 := fun W (o : Below w.heap.size w W) => Lib.hid (ex13 W (hl.below o) (hr.below o))
  have H17 := Lib.hid ((hl.2 w (.of_below (Below.refl _ _))).prim)
  subst hls hrs
  unfold N2 at H10
  simp only [Bool.or_self, Bool.false_eq_true, if_false, Bool.not_false] at H10
  simp only [Bool.and_self] at H13
  have c0 := nd.c0
  have c1 := nd.c1
  have c2 := nd.c2
  have c3 := nd.c3
  have c4 := nd.c4
  have hlt := nd.lt
  obtain ⟨Tl, xl, rfl⟩ := hl.1
  obtain ⟨Tr, xr, rfl⟩ := hr.1
  clear nd hl hr
  go_enter Try.func9, Try.ntmps9
  go_wp2_with fail
  go_region_held3 (fun w' => w'.cell? ⟨b, 0, none⟩ = some (.iface Tl xl) ∧ w'.cell? ⟨b, 1, none⟩ = some (.int .i32 0) ∧ w'.cell? ⟨b, 2, none⟩ = some (.iface Tr xr) ∧ w'.cell? ⟨b, 3, none⟩ = some (.int .i32 0)) (first | assumption | exact HF.out _ (by go_grown) | exact HF.out _ (by repeat' (first | (with_reducible assumption) | (with_reducible exact Below.refl _ _) | (with_reducible refine below_drewN ?_ _) | (with_reducible refine Below.drew ?_)))) (first | (go_at_call 10; (with_reducible refine ((H10 _ (by repeat' (first | (with_reducible assumption) | (with_reducible exact Below.refl _ _) | (with_reducible refine below_drewN ?_ _) | (with_reducible refine Below.drew ?_)))).out).mono ?_); rintro _ wa ⟨rfl, hb⟩; have hba : Below w.heap.size w wa := ((by repeat' (first | (with_reducible assumption) | (with_reducible exact Below.refl _ _) | (with_reducible refine below_drewN ?_ _) | (with_reducible refine Below.drew ?_))) : Below w.heap.size w _).trans (hb.mono (by first | exact Nat.le_refl _ | (simp; done) | (simp; omega))); have hS := HF.out _ hba; have zba := hba.size; clear hb))
  go_wp2_with fail
  go_ret
  exact ⟨rfl, (by repeat' (first | (with_reducible assumption) | (with_reducible exact Below.refl _ _) | (with_reducible refine below_drewN ?_ _) | (with_reducible refine Below.drew ?_)))⟩
set_option maxRecDepth 100000 in
set_option maxHeartbeats 4000000 in
theorem div_num_false (nd : Nd w b vl vr 14) (hl : Kn w vl ls lr (.slice la ll lc)) (hr : Kn w vr rs rr (.slice ra rl rc)) (h0 : (FloatKind.f64.format.order rr 0 == some .eq) = false) (hls : ls = false) (hrs : rs = false) : Ans false b w := by
  have HF := Lib.hid (fun W (o : Below w.heap.size w W) => nd.four o)
  have H10 := fun W (o : Below w.heap.size w W) => Lib.hid (ex10 W (hl.below o) (hr.below o))
  have H13 := fun W (o : Below w.heap.size w W) => Lib.hid (ex13 W (hl.below o) (hr.below o))
  have H17 := Lib.hid ((hl.2 w (.of_below (Below.refl _ _))).prim)
  subst hls hrs
  unfold N2 at H10
  simp only [Bool.or_self, Bool.false_eq_true, if_false, Bool.not_false] at H10
  simp only [Bool.and_self] at H13
  have c0 := nd.c0
  have c1 := nd.c1
  have c2 := nd.c2
  have c3 := nd.c3
  have c4 := nd.c4
  have hlt := nd.lt
  obtain ⟨Tl, xl, rfl⟩ := hl.1
  obtain ⟨Tr, xr, rfl⟩ := hr.1
  clear nd hl hr
  go_enter Try.func9, Try.ntmps9
  go_wp2_with fail
  go_region_held3 (fun w' => w'.cell? ⟨b, 0, none⟩ = some (.iface Tl xl) ∧ w'.cell? ⟨b, 1, none⟩ = some (.int .i32 0) ∧ w'.cell? ⟨b, 2, none⟩ = some (.iface Tr xr) ∧ w'.cell? ⟨b, 3, none⟩ = some (.int .i32 0)) (first | assumption | exact HF.out _ (by go_grown) | exact HF.out _ (by repeat' (first | (with_reducible assumption) | (with_reducible exact Below.refl _ _) | (with_reducible refine below_drewN ?_ _) | (with_reducible refine Below.drew ?_)))) (first | (go_at_call 10; (with_reducible refine ((H10 _ (by repeat' (first | (with_reducible assumption) | (with_reducible exact Below.refl _ _) | (with_reducible refine below_drewN ?_ _) | (with_reducible refine Below.drew ?_)))).out).mono ?_); rintro _ wa ⟨rfl, hb⟩; have hba : Below w.heap.size w wa := ((by repeat' (first | (with_reducible assumption) | (with_reducible exact Below.refl _ _) | (with_reducible refine below_drewN ?_ _) | (with_reducible refine Below.drew ?_))) : Below w.heap.size w _).trans (hb.mono (by first | exact Nat.le_refl _ | (simp; done) | (simp; omega))); have hS := HF.out _ hba; have zba := hba.size; clear hb))
  go_wp2_with fail
  go_ret
  exact ⟨rfl, (by repeat' (first | (with_reducible assumption) | (with_reducible exact Below.refl _ _) | (with_reducible refine below_drewN ?_ _) | (with_reducible refine Below.drew ?_)))⟩
end
end Go.Proofs.Ytfacphjjmmfegaa
