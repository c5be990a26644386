/-
  The cosine against the series, as numbers. No condition.
-/
import Derived.Test.YtkdlfggghgchjaaDoorChg
namespace Go.Proofs.YtkdlfggghgchjaaDoor
open Go.ChangeShapes Go.WideShapes Go.ChangeAt Go.RowKit Fp
set_option linter.unusedVariables false
set_option exponentiation.threshold 2000

theorem val_neg {c : Nat} (h : c < 18446744073709551616) : val (Op.negFloat .f64 c) = -val c := by
  rw [neg_eq, val_uv, val_uv, sg_neg h, rg_neg h]
  cases sg c <;> simp
theorem fin_neg {c : Nat} (h : c < 18446744073709551616) (f : Fp.fin c) : Fp.fin (Op.negFloat .f64 c) := by
  rw [neg_eq]; unfold Fp.fin; rw [rg_neg h]; exact f
/-- A difference that the law takes for small. -/
def Okd (d : Nat) : Prop := ¬ Fp.nan d ∧ ky d ≤ ky 4387073039832405526 ∧ ky 13610445076687181334 ≤ ky d
theorem okd_of {c s : Nat} (fc : Fp.fin c) (fs : Fp.fin s) {b : Rat} (hb : b ≤ 19999 / 10000000000000000000) (h1 : val c - val s ≤ b) (h2 : val s - val c ≤ b) : ∃ d, Ieee.double.sub c s = some d ∧ Okd d := by
  obtain ⟨d, e, n⟩ := fsub fc fs
  have t1 : 19999 / 10000000000000000000 ≤ val 4387073039832405526 := by decide +kernel
  have t2 : val 13610445076687181334 ≤ -(19999 / 10000000000000000000) := by decide +kernel
  exact ⟨d, e, n.nn, n.le (by decide) (by grind), n.ge (by decide) (by grind)⟩
theorem tri_pos {v s q T f g h : Rat} (a1 : v - q ≤ f) (a2 : q - v ≤ f) (b1 : s - T ≤ g) (b2 : T - s ≤ g) (d1 : q - T ≤ h) (d2 : T - q ≤ h) : v - s ≤ f + g + h ∧ s - v ≤ f + g + h := by
  constructor <;> grind
theorem tri_neg {v s q T f g h : Rat} (a1 : v - q ≤ f) (a2 : q - v ≤ f) (b1 : s - T ≤ g) (b2 : T - s ≤ g) (d1 : -q - T ≤ h) (d2 : T - -q ≤ h) : -v - s ≤ f + g + h ∧ s - -v ≤ f + g + h := by
  constructor <;> grind
theorem numI {X : Nat} (h : X ≤ 4605249457297304855) : ∃ c s d, CosCh X c ∧ TayCh X s ∧ Ieee.double.sub c s = some d ∧ Okd d := by
  have i : In 0 4605249457297304856 X := in_w (by omega) (by omega) (by omega)
  obtain ⟨c, hc, vc⟩ := cosI (Va.ofIn i)
  obtain ⟨s, hs, vs⟩ := tayI (Va.ofIn i)
  have v0 := i.vlo
  rw [v_zero] at v0
  have d := dI v0 i.vhi
  obtain ⟨dd, e, o⟩ := okd_of vc.toIn.fin vs.toIn.fin (b := (91032009 / 302231454903657293676544 : Rat) + (41250357 / 37778931862957161709568 : Rat) + 2 / 1000000000000000000) (by decide +kernel) (tri_pos vc.e1 vc.e2 vs.e1 vs.e2 d.1 d.2).1 (tri_pos vc.e1 vc.e2 vs.e1 vs.e2 d.1 d.2).2
  exact ⟨c, s, dd, hc, hs, e, o⟩
theorem z_end0 : (-7855 / 10000 : Rat) + val 4609753056584663040 + val 4500296887714185216 + val 4393339057712419184 ≤ val 4605249457297304856 := by decide +kernel
theorem z_end1 : val 4607182418800017408 ≤ (-5705 / 10000 : Rat) + val 4609753056584663040 + val 4500296887714185216 + val 4393339057712419184 := by decide +kernel
theorem z_rng {x : Rat} (h1 : val 4605249457297304856 ≤ x) (h2 : x ≤ val 4607182418800017408) : (-7855 / 10000 : Rat) ≤ x - val 4609753056584663040 - val 4500296887714185216 - val 4393339057712419184 ∧ x - val 4609753056584663040 - val 4500296887714185216 - val 4393339057712419184 ≤ -5705 / 10000 := by
  have e0 := z_end0
  have e1 := z_end1
  generalize val 4609753056584663040 = a at *
  generalize val 4500296887714185216 = b at *
  generalize val 4393339057712419184 = c at *
  constructor <;> grind
theorem numII {X : Nat} (h : 4605249457297304856 ≤ X) (h2 : X ≤ 4607182418800017408) : ∃ z1 z2 z c s d, Ieee.double.sub X 4609753056584663040 = some z1 ∧ Ieee.double.sub z1 4500296887714185216 = some z2 ∧ Ieee.double.sub z2 4393339057712419184 = some z ∧
    SinCh z c ∧ TayCh X s ∧ Ieee.double.sub (Op.negFloat .f64 c) s = some d ∧ Okd d := by
  have i : In 4605249457297304856 4607182418800017408 X := in_w h h2 (by omega)
  obtain ⟨z1, z2, z, e1, e2, e3, vz⟩ := redII (Va.ofIn i)
  obtain ⟨c, hc, vc, lc⟩ := sinII vz
  obtain ⟨s, hs, vs⟩ := tayII (Va.ofIn i)
  obtain ⟨z0, z9⟩ := z_rng i.vlo i.vhi
  have d := dII (q := val X) rfl z0 z9
  obtain ⟨dd, e, o⟩ := okd_of (c := Op.negFloat .f64 c) (fin_neg lc vc.toIn.fin) vs.toIn.fin (b := (139819967 / 302231454903657293676544 : Rat) + (159334693 / 151115727451828646838272 : Rat) + 6 / 100000000000000000) (by decide +kernel) (by rw [val_neg lc]; exact (tri_neg vc.e1 vc.e2 vs.e1 vs.e2 d.1 d.2).1) (by rw [val_neg lc]; exact (tri_neg vc.e1 vc.e2 vs.e1 vs.e2 d.1 d.2).2)
  exact ⟨z1, z2, z, c, s, dd, e1, e2, e3, hc, hs, e, o⟩
/-- What the law needs of the cosine's word. -/
def QC (x R : Nat) : Prop := (9218868437227405312 ≤ rg x → Fp.nan R) ∧ (rg x ≤ 4485585228861014016 → ¬ Fp.nan R ∧ ky R = 4607182418800017408) ∧
  (4485585228861014016 < rg x → rg x ≤ 4607182418800017408 → ∃ s d, TayCh (rg x) s ∧ Ieee.double.sub R s = some d ∧ Okd d)
theorem cos13 (x : Nat) (hx : x < 18446744073709551616) (w : World) (hT : CTabs w) : Calls Tryd.prog 13 #[.float .f64 x] w fun e w' => ∃ R, e = .returned (.float .f64 R) ∧ QC x R ∧ ∃ k, w' = w.drewN k := by
  by_cases hf : rg x < 9218868437227405312
  · have HN := Lib.hid (isNanB x false (decide_eq_false (by unfold Fp.nan; omega)) w)
    have HI := Lib.hid (isInfB x hx false (decide_eq_false (by omega)) w)
    have HA := Lib.hid (abs x hx w)
    by_cases h0 : rg x ≤ 4605249457297304855
    · by_cases ht : rg x ≤ 4485585228861014016
      · obtain ⟨c, hc, n1, n2⟩ := cosTiny (in_w (l := 0) (h := 4485585228861014016) (x := rg x) (by omega) ht (by omega)) near_one
        exact (oct0 HN HI HA hT h0 hc).mono fun e w' ⟨h1, h2⟩ => ⟨c, h1, ⟨fun h => absurd h (by omega), fun _ => ⟨n1, n2⟩, fun h => absurd h (by omega)⟩, 0, h2.symm⟩
      · obtain ⟨c, s, d, hc, hs, e, o⟩ := numI h0
        exact (oct0 HN HI HA hT h0 hc).mono fun e' w' ⟨h1, h2⟩ => ⟨c, h1, ⟨fun h => absurd h (by omega), fun h => absurd h ht, fun _ _ => ⟨s, d, hs, e, o⟩⟩, 0, h2.symm⟩
    · by_cases h1 : rg x ≤ 4607182418800017408
      · obtain ⟨z1, z2, z, c, s, d, e1, e2, e3, hc, hs, e, o⟩ := numII (X := rg x) (by omega) h1
        exact (oct1 HN HI HA hT (by omega) h1 e1 e2 e3 hc).mono fun e' w' ⟨q1, q2⟩ => ⟨_, q1, ⟨fun h => absurd h (by omega), fun h => absurd h (by omega), fun _ _ => ⟨s, d, hs, e, o⟩⟩, 0, q2.symm⟩
      · have hq : ∀ R, QC x R := fun R => ⟨fun h => absurd h (by omega), fun h => absurd h (by omega), fun _ h => absurd h h1⟩
        by_cases h2 : rg x < 4737786807993761792
        · obtain ⟨R, hR⟩ := mid HN HI HA hT rfl (by omega) h2
          exact hR.mono fun e' w' ⟨q1, q2⟩ => ⟨R, q1, hq R, 0, q2.symm⟩
        · exact (huge x (rg x) (by omega) hf w HN HI HA hT).mono fun e' w' ⟨R, k, q1, q2⟩ => ⟨R, q1, hq R, k, q2⟩
  · exact (none13 x hx (by omega) w).mono fun e w' ⟨h1, h2⟩ => ⟨_, h1, ⟨fun _ => by decide, fun h => absurd h (by omega), fun _ h => absurd h (by omega)⟩, 0, h2.symm⟩
end Go.Proofs.YtkdlfggghgchjaaDoor
