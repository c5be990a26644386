/-
  A new row that a loop fills cell by cell. No condition. (My own helper text, one copy a seat.)
-/
import Derived.Test.YtlgdojbojlbehaaFmtFr
namespace Go.Proofs.YtlgdojbojlbehaaFmt
open Go.ChangeShapes Go.WideShapes Go.ChangeAt Go.RowKit

/-- A new row of n cells, the first k of them told. -/
structure Nr (T : TypeId) (w wr : World) (n k : Nat) (val : Nat → Value) : Prop where
  below : Below w.heap.size w wr
  blk : ∃ cs, Bk wr w.heap.size T cs ∧ cs.size = n ∧ ∀ j, j < k → cs[j]? = some (val j)
theorem Nr.start (T : TypeId) (w : World) (n : Nat) (z : Value) (val : Nat → Value) : Nr T w (w.alloc (.cells (madeCells #[z] n) T)) n 0 val where
  below := (Below.refl _ _).alloc (Nat.le_refl _) _
  blk := ⟨_, Bk.mk w T _, size_madeCells _ _, fun j hj => absurd hj (by omega)⟩
theorem Nr.step {T : TypeId} {w wr : World} {n k : Nat} {val : Nat → Value} (h : Nr T w wr n k val) (hk : k < n) : Nr T w (wr.setCell ⟨w.heap.size, k, none⟩ (val k)) n (k + 1) val where
  below := h.below.setCell (Nat.le_refl _) _
  blk := by
    obtain ⟨cs, h1, h2, h3⟩ := h.blk
    refine ⟨_, h1.set k _, by simpa using h2, fun j hj => ?_⟩
    by_cases e : j = k
    · subst e; simp [h2, hk]
    · rw [Array.getElem?_setIfInBounds]; simp [Ne.symm e]; exact h3 j (by omega)
theorem Nr.cell {T : TypeId} {w wr : World} {n k : Nat} {val : Nat → Value} (h : Nr T w wr n k val) (j : Nat) (hj : j < n) : ∃ v, wr.cell? ⟨w.heap.size, j, none⟩ = some v := by
  obtain ⟨cs, h1, h2, _⟩ := h.blk
  exact ⟨cs[j], by rw [h1.cell j, Array.getElem?_eq_getElem]⟩
theorem Nr.free {T : TypeId} {w wr : World} {n k : Nat} {val : Nat → Value} (h : Nr T w wr n k val) (j : Nat) : wr.frozen? ⟨w.heap.size, j, none⟩ = false := by
  obtain ⟨cs, h1, _, _⟩ := h.blk
  exact h1.free j
theorem Nr.done {T : TypeId} {w wr : World} {n k : Nat} {val : Nat → Value} (h : Nr T w wr n k val) (j : Nat) (hj : j < k) : wr.cell? ⟨w.heap.size, j, none⟩ = some (val j) := by
  obtain ⟨cs, h1, _, h3⟩ := h.blk
  rw [h1.cell j]; exact h3 j hj
theorem Nr.lt {T : TypeId} {w wr : World} {n k : Nat} {val : Nat → Value} (h : Nr T w wr n k val) : w.heap.size < wr.heap.size := by
  obtain ⟨cs, h1, _, _⟩ := h.blk
  exact h1.lt
theorem Nr.later {T : TypeId} {w wr w' : World} {n k : Nat} {val : Nat → Value} (h : Nr T w wr n k val) (hb : Below wr.heap.size wr w') : Nr T w w' n k val where
  below := h.below.trans (hb.mono h.below.size)
  blk := by
    obtain ⟨cs, h1, h2, h3⟩ := h.blk
    exact ⟨cs, h1.below hb h1.lt, h2, h3⟩
theorem Nr.congr {T : TypeId} {w wr : World} {n k : Nat} {val val' : Nat → Value} (h : Nr T w wr n k val) (e : ∀ j, j < k → val' j = val j) : Nr T w wr n k val' where
  below := h.below
  blk := by
    obtain ⟨cs, h1, h2, h3⟩ := h.blk
    exact ⟨cs, h1, h2, fun j hj => by rw [e j hj]; exact h3 j hj⟩
end Go.Proofs.YtlgdojbojlbehaaFmt
