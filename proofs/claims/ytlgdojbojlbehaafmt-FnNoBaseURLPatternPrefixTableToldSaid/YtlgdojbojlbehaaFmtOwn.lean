/-
  A block of the call's own, told by a function of the place. No condition. (My own helper text, one copy a seat.)
-/
import Derived.Test.YtlgdojbojlbehaaFmtCl
namespace Go.Proofs.YtlgdojbojlbehaaFmt
open Go.ChangeShapes Go.WideShapes Go.ChangeAt Go.RowKit

structure Own (wr : World) (B len : Nat) (val : Nat → Value) : Prop where
  size : B < wr.heap.size
  free : ∀ j, wr.frozen? ⟨B, j, none⟩ = false
  cell : ∀ j, j < len → wr.cell? ⟨B, j, none⟩ = some (val j)

theorem Own.made (w : World) (len : Nat) (z : Value) (E : TypeId) : Own (w.alloc (.cells (madeCells #[z] len) E)) w.heap.size len (fun _ => z) where
  size := by simp
  free := fun j => by simp [go_sem]
  cell := fun j hj => by
    rw [World.cell?_alloc_new]
    rw [Array.getElem?_eq_getElem (by rw [size_madeCells]; exact hj)]
    have h : (madeCells #[z] len).toList[j]'(by simp [size_madeCells]; exact hj) = z := by simp [toList_madeCells_one]
    rw [← Array.getElem_toList]; exact congrArg some h
theorem Own.alloc {wr : World} {B len : Nat} {val : Nat → Value} (h : Own wr B len val) (o : Obj) : Own (wr.alloc o) B len val where
  size := by have := h.size; simp; omega
  free := fun j => (World.frozen?_alloc_past (w := wr) o B j h.size).trans (h.free j)
  cell := fun j hj => (World.cell?_alloc_past (w := wr) o B j h.size).trans (h.cell j hj)
theorem Own.set {wr : World} {B len : Nat} {val : Nat → Value} (h : Own wr B len val) (k : Nat) (hk : k < len) (v : Value) (val' : Nat → Value) (hv : val' k = v) (ho : ∀ j, j < len → j ≠ k → val' j = val j) : Own (wr.setCell ⟨B, k, none⟩ v) B len val' where
  size := by simpa using h.size
  free := fun j => by simpa using h.free j
  cell := fun j hj => by
    by_cases e : j = k
    · subst e
      rw [World.cell?_setCell_same _ _ _ (h.cell j hj), hv]
    · rw [World.cell?_setCell_other _ _ _ _ (by simp), ho j hj e]; exact h.cell j hj
theorem Own.other {wr : World} {B len : Nat} {val : Nat → Value} (h : Own wr B len val) (p : Addr) (hp : p.block ≠ B) (v : Value) : Own (wr.setCell p v) B len val where
  size := by simpa using h.size
  free := fun j => by simpa using h.free j
  cell := fun j hj => by rw [World.cell?_setCell_other _ _ _ _ (fun e => hp (by rw [e]))]; exact h.cell j hj
theorem Own.below {wr w' : World} {B len n : Nat} {val : Nat → Value} (h : Own wr B len val) (hb : Below n wr w') (hB : B < n) : Own w' B len val where
  size := Nat.lt_of_lt_of_le h.size hb.size
  free := fun j => by rw [hb.frozen (p := ⟨B, j, none⟩) hB]; exact h.free j
  cell := fun j hj => by rw [hb.cell (p := ⟨B, j, none⟩) hB]; exact h.cell j hj
theorem Own.one {w : World} (B : Nat) (v : Value) (hs : B < w.heap.size) (hf : ∀ j, w.frozen? ⟨B, j, none⟩ = false) (hc : w.cell? ⟨B, 0, none⟩ = some v) : Own w B 1 (fun _ => v) where
  size := hs
  free := hf
  cell := fun j hj => by obtain rfl : j = 0 := by omega
                         exact hc
theorem Own.congr {wr : World} {B len : Nat} {val val' : Nat → Value} (h : Own wr B len val) (e : ∀ j, j < len → val' j = val j) : Own wr B len val' where
  size := h.size
  free := h.free
  cell := fun j hj => by rw [e j hj]; exact h.cell j hj
theorem Own.drew {wr : World} {B len : Nat} {val : Nat → Value} (h : Own wr B len val) : Own wr.drew B len val where
  size := h.size
  free := fun j => by simpa using h.free j
  cell := fun j hj => by simpa using h.cell j hj
theorem Own.drewN {wr : World} {B len : Nat} {val : Nat → Value} (h : Own wr B len val) (n : Nat) : Own (wr.drewN n) B len val where
  size := by simpa using h.size
  free := fun j => by simpa using h.free j
  cell := fun j hj => by simpa using h.cell j hj
/-- Only block B was written, and blocks were laid behind. -/
def Keeps (B : Nat) (w w' : World) : Prop := (∀ C len val, C ≠ B → Own w C len val → Own w' C len val) ∧ (∀ n, n ≤ B → n ≤ w.heap.size → Below n w w')
theorem Keeps.setAlloc (w : World) (B i : Nat) (v : Value) (o : Obj) : Keeps B w ((w.setCell ⟨B, i, none⟩ v).alloc o) :=
  ⟨fun C len val hC h => (h.other ⟨B, i, none⟩ (Ne.symm hC) v).alloc o, fun n hn hs => ((Below.refl n w).setCell (p := ⟨B, i, none⟩) hn v).alloc (by simpa using hs) o⟩
/-- One element of a slice of integers, in the walk's spelling. -/
theorem IsInts.at {k : IntKind} {w : World} {a : Option Addr} {len cap : Nat} {zs : List Int} (h : IsInts k w a len cap zs) (h0 : 0 < len) :
    ∃ b off, a = some ⟨b, off, none⟩ ∧ b < w.heap.size ∧ ∀ i, i < len → w.cell? ⟨b, off + i, none⟩ = some (.int k (zs.getD i 0)) := by
  obtain ⟨⟨h1, _, _, _, h5⟩, _⟩ := h
  obtain ⟨b, off, e, hb, hc⟩ := h5 h0
  rw [List.length_map] at h1
  exact ⟨b, off, e, hb, fun i hi => by rw [hc i hi, getD_map_int _ _ _ (by omega)]⟩
theorem IsInts.wf {k : IntKind} {w : World} {a : Option Addr} {len cap : Nat} {zs : List Int} (h : IsInts k w a len cap zs) (i : Nat) (hi : i < len) : (Lit.int k (zs.getD i 0)).wf = true := by
  obtain ⟨⟨h1, _⟩, hw⟩ := h
  rw [List.length_map] at h1
  exact hw _ (by rw [List.getD_eq_getElem?_getD, List.getElem?_eq_getElem (show i < zs.length by omega)]; simp)
theorem nat_u64 {z : Int} (h : (Lit.int .u64 z).wf = true) : ∃ x : Nat, z = x ∧ x < 18446744073709551616 := by
  simp [Lit.wf, IntKind.min, IntKind.max, IntKind.signed, IntKind.bits] at h
  exact ⟨z.toNat, by omega, by omega⟩
theorem nat_u32 {z : Int} (h : (Lit.int .u32 z).wf = true) : ∃ x : Nat, z = x ∧ x < 4294967296 := by
  simp [Lit.wf, IntKind.min, IntKind.max, IntKind.signed, IntKind.bits] at h
  exact ⟨z.toNat, by omega, by omega⟩
theorem nat_u16 {z : Int} (h : (Lit.int .u16 z).wf = true) : ∃ x : Nat, z = x ∧ x < 65536 := by
  simp [Lit.wf, IntKind.min, IntKind.max, IntKind.signed, IntKind.bits] at h
  exact ⟨z.toNat, by omega, by omega⟩
theorem nat_u8 {z : Int} (h : (Lit.int .u8 z).wf = true) : ∃ x : Nat, z = x ∧ x < 256 := by
  simp [Lit.wf, IntKind.min, IntKind.max, IntKind.signed, IntKind.bits] at h
  exact ⟨z.toNat, by omega, by omega⟩
end Go.Proofs.YtlgdojbojlbehaaFmt
