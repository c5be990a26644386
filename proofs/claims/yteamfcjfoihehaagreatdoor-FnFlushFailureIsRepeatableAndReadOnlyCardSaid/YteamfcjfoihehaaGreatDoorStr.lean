/-
  Slices of strings that came in, and the equality of strings. No condition. (My own helper text, one copy a seat.)
-/
import Derived.Test.YteamfcjfoihehaaGreatDoorOwn
namespace Go.Proofs.YteamfcjfoihehaaGreatDoor
open Go.ChangeShapes Go.WideShapes Go.ChangeAt Go.RowKit

theorem IsStrs.at {w : World} {a : Option Addr} {len cap : Nat} {zs : List ByteArray} (h : IsStrs w a len cap zs) (h0 : 0 < len) :
    ∃ b off, a = some ⟨b, off, none⟩ ∧ b < w.heap.size ∧ ∀ i, i < len → w.cell? ⟨b, off + i, none⟩ = some (.string (zs.getD i ByteArray.empty)) := by
  obtain ⟨⟨h1, _, _, _, h5⟩, _⟩ := h
  obtain ⟨b, off, e, hb, hc⟩ := h5 h0
  rw [List.length_map] at h1
  exact ⟨b, off, e, hb, fun i hi => by rw [hc i hi, getD_map_str _ _ (by omega)]⟩
theorem IsStrs.small {w : World} {a : Option Addr} {len cap : Nat} {zs : List ByteArray} (h : IsStrs w a len cap zs) (i : Nat) : (zs.getD i ByteArray.empty).size ≤ 9223372036854775807 := by
  obtain ⟨_, hw⟩ := h
  by_cases hi : i < zs.length
  · have := hw _ (show zs.getD i ByteArray.empty ∈ zs by rw [List.getD_eq_getElem?_getD, List.getElem?_eq_getElem hi]; simp)
    simpa [maxLen] using this
  · rw [List.getD_eq_getElem?_getD, List.getElem?_eq_none (Nat.le_of_not_lt hi)]; simp
theorem IsStrs.below {w w' : World} {a : Option Addr} {len cap : Nat} {zs : List ByteArray} (h : IsStrs w a len cap zs) (hb : Below w.heap.size w w') : IsStrs w' a len cap zs := ⟨h.1.below hb, h.2⟩
theorem IsStrs.len {w : World} {a : Option Addr} {len cap : Nat} {zs : List ByteArray} (h : IsStrs w a len cap zs) : zs.length = len := by have := h.1.1; rwa [List.length_map] at this
theorem str_beq (a b : ByteArray) : (a.toList == b.toList) = decide (a = b) := by
  have e : ∀ x : ByteArray, x.toList = x.data.toList := fun x => by rw [ByteArray.toList_eq]
  by_cases h : a = b
  · subst h; simp
  · rw [decide_eq_false h, e, e]
    have : ¬ a.data.toList = b.data.toList := fun q => h (ByteArray.ext (Array.toList_inj.1 q))
    simpa using this
end Go.Proofs.YteamfcjfoihehaaGreatDoor
