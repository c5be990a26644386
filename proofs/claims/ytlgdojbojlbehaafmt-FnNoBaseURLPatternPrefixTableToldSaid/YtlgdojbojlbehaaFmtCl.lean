/-
  A loop that copies a slice into a new one of the call's own: what holds at its head. No condition. (My own helper text, one copy a seat.)
-/
import Derived.Test.YtlgdojbojlbehaaFmtKit
import Derived.WalkSpells
import Derived.Handy
import Derived.WalkLawsBesides
import Derived.Lib.Hide
namespace Go.Proofs.YtlgdojbojlbehaaFmt
open Go.ChangeShapes Go.WideShapes Go.ChangeAt Go.RowKit

/-- Block B is new, its cells are there and free, the first k hold the first k of vs. -/
structure Cl (w wr : World) (len k : Nat) (vs : List Value) : Prop where
  below : Below w.heap.size w wr
  size : w.heap.size < wr.heap.size
  free : ∀ j, wr.frozen? ⟨w.heap.size, j, none⟩ = false
  some : ∀ j, j < len → ∃ v, wr.cell? ⟨w.heap.size, j, none⟩ = .some v
  done : ∀ j, j < k → wr.cell? ⟨w.heap.size, j, none⟩ = .some (vs.getD j (.bool false))

theorem Cl.start (w : World) (len : Nat) (z : Value) (E : TypeId) (vs : List Value) : Cl w (w.alloc (.cells (madeCells z.cells len) E)) len 0 vs where
  below := (Below.refl _ _).alloc (Nat.le_refl _) _
  size := by simp
  free := fun j => by simp [go_sem]
  some := fun j hj => by
    refine ⟨(madeCells z.cells len)[j]'(by rw [size_madeCells]; exact hj), ?_⟩
    rw [World.cell?_alloc_new]
    exact Array.getElem?_eq_getElem _
  done := fun j hj => absurd hj (by omega)

theorem Cl.step {w wr : World} {len k : Nat} {vs : List Value} (h : Cl w wr len k vs) (hk : k < len) (v : Value) (hv : v = vs.getD k (.bool false)) :
    Cl w (wr.setCell ⟨w.heap.size, k, none⟩ v) len (k + 1) vs where
  below := h.below.setCell (Nat.le_refl _) _
  size := by simpa using h.size
  free := fun j => by simpa using h.free j
  some := fun j hj => by
    by_cases e : k = j
    · subst e
      obtain ⟨u, hu⟩ := h.some k hk
      exact ⟨_, World.cell?_setCell_same _ _ _ hu⟩
    · obtain ⟨u, hu⟩ := h.some j hj
      exact ⟨u, by rw [World.cell?_setCell_other _ _ _ _ (by simp)]; exact hu⟩
  done := fun j hj => by
    by_cases e : k = j
    · subst e
      obtain ⟨u, hu⟩ := h.some k hk
      rw [World.cell?_setCell_same _ _ _ hu, hv]
    · rw [World.cell?_setCell_other _ _ _ _ (by simp)]; exact h.done j (by omega)

theorem Cl.isSlice {w wr : World} {len : Nat} {vs : List Value} (h : Cl w wr len len vs) (hv : vs.length = len) (hm : len ≤ maxLen) : IsSlice wr (.some ⟨w.heap.size, 0, none⟩) len len vs :=
  ⟨hv, Nat.le_refl _, hm, by simp, fun _ => ⟨_, 0, rfl, h.size, fun i hi => by rw [Nat.zero_add]; exact h.done i hi⟩⟩

theorem IsSlice.below {w w' : World} {a : Option Addr} {len cap : Nat} {vs : List Value} (h : IsSlice w a len cap vs) (hb : Below w.heap.size w w') : IsSlice w' a len cap vs := by
  obtain ⟨h1, h2, h3, h4, h5⟩ := h
  refine ⟨h1, h2, h3, h4, fun h0 => ?_⟩
  obtain ⟨b, off, e, hlt, hc⟩ := h5 h0
  exact ⟨b, off, e, Nat.lt_of_lt_of_le hlt hb.size, fun i hi => by rw [hb.cell (p := ⟨b, off + i, none⟩) hlt]; exact hc i hi⟩
theorem getD_map_int (k : IntKind) (zs : List Int) (i : Nat) (h : i < zs.length) : (zs.map (Value.int k)).getD i (.bool false) = .int k (zs.getD i 0) := by
  simp [List.getD_eq_getElem?_getD, List.getElem?_eq_getElem h]
theorem getD_map_bool (zs : List Bool) (i : Nat) (h : i < zs.length) : (zs.map Value.bool).getD i (.bool false) = .bool (zs.getD i false) := by
  simp [List.getD_eq_getElem?_getD, List.getElem?_eq_getElem h]
theorem getD_map_str (zs : List ByteArray) (i : Nat) (h : i < zs.length) : (zs.map Value.string).getD i (.bool false) = .string (zs.getD i ByteArray.empty) := by
  simp [List.getD_eq_getElem?_getD, List.getElem?_eq_getElem h]
/-- A copy of a slice: nil for nil, else new memory. -/
def Copied (Q : World → Option Addr → Nat → Nat → Prop) (a : Option Addr) (len : Nat) (w : World) (e : Ending) (w' : World) : Prop :=
  ∃ a' cap', e = .returned (.slice a' len cap') ∧ Q w' a' len cap' ∧ (a = none ↔ a' = none) ∧ Below w.heap.size w w'
end Go.Proofs.YtlgdojbojlbehaaFmt
