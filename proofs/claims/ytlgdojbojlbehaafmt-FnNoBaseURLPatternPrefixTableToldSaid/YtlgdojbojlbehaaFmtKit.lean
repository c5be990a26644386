/-
  What a law's walk is told of a slice that came in, and that the row's reading gives it. No condition. (My own helper text, one copy a seat.)
-/
import Derived.WalkKit
import Derived.ProofKit
import Derived.OpenShut
import Derived.ShutString
import Derived.ChangeOld
import Derived.Below
import Derived.Laws.Cover2
import Derived.Deep.Grids
import Derived.SliceStrings
namespace Go.Proofs.YtlgdojbojlbehaaFmt
open Go.ChangeShapes Go.WideShapes Go.ChangeAt Go.RowKit

/-- A slice value whose first 'len' cells hold 'vs'. -/
def IsSlice (w : World) (a : Option Addr) (len cap : Nat) (vs : List Value) : Prop :=
  vs.length = len ∧ len ≤ cap ∧ cap ≤ maxLen ∧ (a = none → cap = 0) ∧
  (0 < len → ∃ b off, a = some ⟨b, off, none⟩ ∧ b < w.heap.size ∧ ∀ i, i < len → w.cell? ⟨b, off + i, none⟩ = some (vs.getD i (.bool false)))

def IsInts (k : IntKind) (w : World) (a : Option Addr) (len cap : Nat) (zs : List Int) : Prop :=
  IsSlice w a len cap (zs.map (Value.int k)) ∧ ∀ n ∈ zs, (Lit.int k n).wf = true
def IsBools (w : World) (a : Option Addr) (len cap : Nat) (zs : List Bool) : Prop := IsSlice w a len cap (zs.map Value.bool)
def IsStrs (w : World) (a : Option Addr) (len cap : Nat) (zs : List ByteArray) : Prop :=
  IsSlice w a len cap (zs.map Value.string) ∧ ∀ s ∈ zs, s.size ≤ maxLen

theorem isSlice_mk {w : World} {a : Addr} {len cap : Nat} {vs : List Value} (hl : len ≤ cap) (hm : cap ≤ maxLen) (hv : vs.length = len)
    (hc : ∀ i, i < len → w.cell? (a.add i) = some (vs.getD i (.bool false))) : IsSlice w (some a) len cap vs := by
  refine ⟨hv, hl, hm, by simp, fun h0 => ?_⟩
  obtain ⟨b, off, spot⟩ := a
  have hspot : spot = none := by simpa [Addr.add] using World.cell?_spot (hc 0 h0)
  subst hspot
  have hc' : ∀ j, j < len → w.cell? ⟨b, off + j, none⟩ = some (vs.getD j (.bool false)) := fun j hj => by rw [← Go.WideShapes.add_plain]; exact hc j hj
  refine ⟨b, off, rfl, ?_, hc'⟩
  have := hc' 0 h0
  false_or_by_contra
  rename_i hb
  simp [World.cell?, Array.getElem?_eq_none (Nat.le_of_not_lt hb)] at this

section
variable {H : Type} {enc : TypeId × Value → H} {P : Program} {w : World} {held : Bool}
theorem isInts_of_trod {t e : TypeId} {k : IntKind} {a : Option Addr} {len cap : Nat} {d : DataW H} {p : List MemPlace} (ht : P.underlying t = some (.slice e)) (he : P.underlying e = some (.int k)) (hc : P.cellsOf e = 1)
    (h : DataW.Trod enc P w 0 (fun _ => true) held t (.slice a len cap) d p) : ∃ zs, IsInts k w a len cap zs := by
  obtain ⟨fuel, hf⟩ := h
  rcases open_ints ht he hc hf with ⟨hcs, _⟩ | ⟨x, l, c, zs, hcs, _, hl, hm, hz, _, hcell, hwz⟩
  · simp [Value.cells] at hcs
    obtain ⟨rfl, rfl, rfl⟩ := hcs
    exact ⟨[], ⟨rfl, Nat.le_refl _, Nat.zero_le _, fun _ => rfl, fun h => absurd h (by omega)⟩, by simp⟩
  · simp [Value.cells] at hcs
    obtain ⟨rfl, rfl, rfl⟩ := hcs
    simp only [if_true] at hz
    refine ⟨zs.take len, isSlice_mk hl hm (by simp; omega) fun i hi => ?_, fun n hn => hwz n (List.mem_of_mem_take hn)⟩
    rw [hcell i (by omega)]
    simp [List.getD_eq_getElem?_getD, hi, List.getElem?_eq_getElem (show i < zs.length by omega)]
theorem isBools_of_trod {t e : TypeId} {a : Option Addr} {len cap : Nat} {d : DataW H} {p : List MemPlace} (ht : P.underlying t = some (.slice e)) (he : P.underlying e = some .bool) (hc : P.cellsOf e = 1)
    (h : DataW.Trod enc P w 0 (fun _ => true) held t (.slice a len cap) d p) : ∃ zs, IsBools w a len cap zs := by
  obtain ⟨fuel, hf⟩ := h
  rcases Deep.open_bools ht he hc hf with ⟨hcs, _⟩ | ⟨x, l, c, B, hcs, _, hl, hm, _, hcell⟩
  · simp [Value.cells] at hcs
    obtain ⟨rfl, rfl, rfl⟩ := hcs
    exact ⟨[], ⟨rfl, Nat.le_refl _, Nat.zero_le _, fun _ => rfl, fun h => absurd h (by omega)⟩⟩
  · simp [Value.cells] at hcs
    obtain ⟨rfl, rfl, rfl⟩ := hcs
    refine ⟨(List.range len).map B, isSlice_mk hl hm (by simp) fun i hi => ?_⟩
    rw [hcell i (by omega)]
    simp [List.getD_eq_getElem?_getD, hi]
theorem isStrs_of_trod {t e : TypeId} {a : Option Addr} {len cap : Nat} {d : DataW H} {p : List MemPlace} (ht : P.underlying t = some (.slice e)) (he : P.underlying e = some .string) (hc : P.cellsOf e = 1)
    (h : DataW.Trod enc P w 0 (fun _ => true) held t (.slice a len cap) d p) : ∃ zs, IsStrs w a len cap zs := by
  obtain ⟨fuel, hf⟩ := h
  rcases open_strings ht he hc hf with ⟨hcs, _⟩ | ⟨x, l, c, zs, hcs, _, hl, hm, hz, _, hcell, hwz⟩
  · simp [Value.cells] at hcs
    obtain ⟨rfl, rfl, rfl⟩ := hcs
    exact ⟨[], ⟨rfl, Nat.le_refl _, Nat.zero_le _, fun _ => rfl, fun h => absurd h (by omega)⟩, by simp⟩
  · simp [Value.cells] at hcs
    obtain ⟨rfl, rfl, rfl⟩ := hcs
    simp only [if_true] at hz
    refine ⟨zs.take len, isSlice_mk hl hm (by simp; omega) fun i hi => ?_, fun n hn => hwz n (List.mem_of_mem_take hn)⟩
    rw [hcell i (by omega)]
    simp [List.getD_eq_getElem?_getD, hi, List.getElem?_eq_getElem (show i < zs.length by omega)]
end
end Go.Proofs.YtlgdojbojlbehaaFmt
