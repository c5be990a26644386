/-
  The three tables of package math: what a world that reads as the row asks holds. No condition.
-/
import Derived.Test.YtkdlfggghgchjaaDoorProg
import Derived.Test.YtkdlfggghgchjaaDoorRows
import Derived.Lib.LaidU8
import Derived.Below
import Derived.WalkKit
import Derived.ProofKit
import Derived.OpenShut
import Derived.ChangeOld
namespace Go.Proofs.YtkdlfggghgchjaaDoor
open Go.ChangeShapes Go.WideShapes Go.ChangeAt Go.RowKit Go.Lib
set_option linter.unusedVariables false

def sinW : List Nat := [4460209587652500685, 13716528389658582877, 4523617212962785441, 13774824197404483331, 4575957461383575504, 13818544856648471880]
def cosW : List Nat := [13666448263388469915, 4477121864728985349, 13732177093698800582, 4537941361668146421, 13787419979223748497, 4586165620538955083]
/-- The tables' cells. -/
structure CTabs (w : World) : Prop where
  sin : ∀ i, i < 6 → w.cell? ⟨1, i, none⟩ = some (.float .f64 (sinW.getD i 0))
  cos : ∀ i, i < 6 → w.cell? ⟨2, i, none⟩ = some (.float .f64 (cosW.getD i 0))
  pi4 : ∀ i, i < 20 → ∃ n : Int, 0 ≤ n ∧ n < 18446744073709551616 ∧ w.cell? ⟨3, i, none⟩ = some (.int .u64 n)
  size : 3 < w.heap.size
theorem trod_float {H : Type} {enc : TypeId × Value → H} {P : Program} {w : World} {base : Nat} {sp : Nat → Bool} {held : Bool} {fuel : Nat} {t : TypeId} {cs : List Value} {x : DataW H × List MemPlace} {k : FloatKind}
    (ht : P.underlying t = some (.float k)) (h : DataW.trod enc P w base sp held fuel t cs = some x) : ∃ n, cs = [.float k n] ∧ x.1 = .lit (.float k n) := by
  cases fuel with
  | zero => simp [DataW.trod] at h
  | succ n =>
    unfold DataW.trod at h
    rw [ht] at h
    split at h <;> simp_all
    obtain ⟨h1, rfl⟩ := h
    rfl
theorem cells_of_ftab {H : Type} {enc : TypeId × Value → H} {P : Program} {w : World} {base : Nat} {sp : Nat → Bool} {held : Bool} {fuel : Nat} {t e : TypeId} {n : Nat} {k : FloatKind} {cs : List Value} {zs : List Nat} {p : List MemPlace}
    (ht : P.underlying t = some (.array n e)) (he : P.underlying e = some (.float k)) (hce : P.cellsOf e = 1) (hz : zs.length = n)
    (h : DataW.trod enc P w base sp held fuel t cs = some (.agg (zs.map fun z => .lit (.float k z)), p)) (i : Nat) (hi : i < n) : cs[i]? = some (.float k (zs.getD i 0)) := by
  obtain ⟨fuel', d, q, hd, ht2⟩ := array_elem ht h i hi
  rw [hce, Nat.mul_one] at ht2
  obtain ⟨z, hc, hx⟩ := trod_float he ht2
  simp only at hx
  subst hx
  have h1 : cs[i]? = some (.float k z) := by
    have := congrArg (·[0]?) hc
    simpa [List.getElem?_take, List.getElem?_drop] using this
  simp only [List.getElem?_map, Option.map_eq_some_iff, DataW.lit.injEq, Lit.float.injEq, true_and] at hd
  obtain ⟨z', hz', rfl⟩ := hd
  rw [h1, List.getD, hz']; rfl
theorem ctabs {w : World} (h : laidMet Tryd.prog [("math._sin", Rows.laid_math_sin), ("math._cos", Rows.laid_math_cos), ("math.mPi4", Rows.laid_math_mPi4)] w) : CTabs w := by
  have h1 := laidMet.reads h (.head _)
  have h2 := laidMet.reads h (.tail _ (.head _))
  have h3 := laidMet.reads h (.tail _ (.tail _ (.head _)))
  have s : ∀ i, i < 6 → w.cell? ⟨1, i, none⟩ = some (.float .f64 (sinW.getD i 0)) := by
    intro i hi
    obtain ⟨g, t, cs, fuel, p, hg, hty, hvar, hd⟩ := h1
    obtain rfl := Option.some.inj ((show Tryd.prog.globalNamed "math._sin" = some 1 by kernel_rfl).symm.trans hg)
    obtain rfl := Option.some.inj ((show (Tryd.prog.globals[1]?).map (·.type) = some 35 by kernel_rfl).symm.trans hty)
    rw [World.var?_cell hg hvar i, ← Array.getElem?_toList]
    exact cells_of_ftab (zs := sinW) Tryd.underlying35 Tryd.underlying22 (by kernel_rfl) rfl hd i hi
  have c : ∀ i, i < 6 → w.cell? ⟨2, i, none⟩ = some (.float .f64 (cosW.getD i 0)) := by
    intro i hi
    obtain ⟨g, t, cs, fuel, p, hg, hty, hvar, hd⟩ := h2
    obtain rfl := Option.some.inj ((show Tryd.prog.globalNamed "math._cos" = some 2 by kernel_rfl).symm.trans hg)
    obtain rfl := Option.some.inj ((show (Tryd.prog.globals[2]?).map (·.type) = some 35 by kernel_rfl).symm.trans hty)
    rw [World.var?_cell hg hvar i, ← Array.getElem?_toList]
    exact cells_of_ftab (zs := cosW) Tryd.underlying35 Tryd.underlying22 (by kernel_rfl) rfl hd i hi
  have m : ∀ i, i < 20 → ∃ n : Int, 0 ≤ n ∧ n < 18446744073709551616 ∧ w.cell? ⟨3, i, none⟩ = some (.int .u64 n) := by
    intro i hi
    obtain ⟨g, t, cs, fuel, p, hg, hty, hvar, hd⟩ := h3
    obtain rfl := Option.some.inj ((show Tryd.prog.globalNamed "math.mPi4" = some 3 by kernel_rfl).symm.trans hg)
    obtain rfl := Option.some.inj ((show (Tryd.prog.globals[3]?).map (·.type) = some 39 by kernel_rfl).symm.trans hty)
    obtain ⟨fuel', d, q, hdi, he⟩ := array_elem Tryd.underlying39 hd i hi
    rw [show Tryd.prog.cellsOf 32 = 1 by kernel_rfl, Nat.mul_one] at he
    obtain ⟨z, hc, _, hw⟩ := DataW.trod_int Tryd.underlying32 he
    have hr : 0 ≤ z ∧ z < 18446744073709551616 := by
      have hw2 := hw
      simp [Lit.wf, IntKind.min, IntKind.max, IntKind.signed, IntKind.bits] at hw2
      omega
    refine ⟨z, hr.1, hr.2, ?_⟩
    rw [World.var?_cell hg hvar i, ← Array.getElem?_toList]
    have := congrArg (·[0]?) hc
    simpa [List.getElem?_take, List.getElem?_drop] using this
  refine ⟨s, c, m, ?_⟩
  obtain ⟨n, _, _, hn⟩ := m 0 (by omega)
  false_or_by_contra
  rename_i hb
  simp [World.cell?, Array.getElem?_eq_none (Nat.le_of_not_lt hb)] at hn
theorem CTabs.below {w w' : World} {B : Nat} (h : CTabs w) (b : Below B w w') (hB : 3 < B) : CTabs w' := by
  refine ⟨fun i hi => ?_, fun i hi => ?_, fun i hi => ?_, ?_⟩
  · rw [b.cell (p := ⟨1, i, none⟩) (by show 1 < B; omega)]; exact h.sin i hi
  · rw [b.cell (p := ⟨2, i, none⟩) (by show 2 < B; omega)]; exact h.cos i hi
  · obtain ⟨n, h1, h2, h3⟩ := h.pi4 i hi
    exact ⟨n, h1, h2, by rw [b.cell (p := ⟨3, i, none⟩) (by show 3 < B; omega)]; exact h3⟩
  · obtain ⟨n, h1, h2, h3⟩ := h.pi4 0 (by omega)
    rw [← b.cell (p := ⟨3, 0, none⟩) (by show 3 < B; omega)] at h3
    false_or_by_contra
    rename_i hb
    simp [World.cell?, Array.getElem?_eq_none (Nat.le_of_not_lt hb)] at h3
end Go.Proofs.YtkdlfggghgchjaaDoor
