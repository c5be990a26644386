/-
  A slice of slices of integers that came in. No condition. (My own helper text, one copy a seat.)
-/
import Derived.Test.YtakokgjbffielaaOwn
import Derived.Deep.Slices
namespace Go.Proofs.Ytakokgjbffielaa
open Go.ChangeShapes Go.WideShapes Go.ChangeAt Go.RowKit

/-- One row: where it lies, how long it is, what it reads as. -/
structure Row where
  a : Option Addr
  len : Nat
  cap : Nat
  zs : List Int
def Row.val (r : Row) : Value := .slice r.a r.len r.cap
def IsRows (k : IntKind) (w : World) (a : Option Addr) (len cap : Nat) (rs : List Row) : Prop :=
  IsSlice w a len cap (rs.map Row.val) ∧ ∀ r ∈ rs, IsInts k w r.a r.len r.cap r.zs

section
variable {H : Type} {enc : TypeId × Value → H} {P : Program} {w : World} {held : Bool}
theorem isInts_of_cells {t e : TypeId} {k : IntKind} {fuel : Nat} {cs : List Value} {x : DataW H × List MemPlace} (ht : P.underlying t = some (.slice e)) (he : P.underlying e = some (.int k)) (hc : P.cellsOf e = 1)
    (h : DataW.trod enc P w 0 (fun _ => true) held fuel t cs = some x) : ∃ r : Row, cs = [r.val] ∧ IsInts k w r.a r.len r.cap r.zs := by
  rcases open_ints ht he hc h with ⟨rfl, _⟩ | ⟨a, l, c, zs, rfl, _, hl, hm, hz, _, hcell, hwz⟩
  · exact ⟨⟨none, 0, 0, []⟩, rfl, ⟨rfl, Nat.le_refl _, Nat.zero_le _, fun _ => rfl, fun h => absurd h (Nat.lt_irrefl 0)⟩, by simp⟩
  · simp only [if_true] at hz
    refine ⟨⟨some a, l, c, zs.take l⟩, rfl, isSlice_mk hl hm (by simp; omega) fun i hi => ?_, fun n hn => hwz n (List.mem_of_mem_take hn)⟩
    dsimp only at hi
    rw [hcell i (by omega)]
    simp [List.getD_eq_getElem?_getD, hi, List.getElem?_eq_getElem (show i < zs.length by omega)]
theorem isRows_of_trod {t e f : TypeId} {k : IntKind} {a : Option Addr} {len cap : Nat} {d : DataW H} {p : List MemPlace} (ht : P.underlying t = some (.slice e)) (he : P.underlying e = some (.slice f)) (hf : P.underlying f = some (.int k)) (hc : P.cellsOf e = 1) (hc' : P.cellsOf f = 1)
    (h : DataW.Trod enc P w 0 (fun _ => true) held t (.slice a len cap) d p) : ∃ rs, IsRows k w a len cap rs := by
  obtain ⟨fuel, hq⟩ := h
  rcases Deep.open_slice ht hq with ⟨hcs, _⟩ | ⟨x, l, c, m, n, D, Pl, hcs, _, hl, hm, hmm, _, hi⟩
  · simp [Value.cells] at hcs
    obtain ⟨rfl, rfl, rfl⟩ := hcs
    exact ⟨[], ⟨rfl, Nat.le_refl _, Nat.zero_le _, fun _ => rfl, fun h => absurd h (by omega)⟩, by simp⟩
  · simp [Value.cells] at hcs
    obtain ⟨rfl, rfl, rfl⟩ := hcs
    simp only [if_true] at hmm
    rw [hc] at hi
    have hrow : ∀ i, i < len → ∃ r : Row, w.cell? (x.add i) = some r.val ∧ IsInts k w r.a r.len r.cap r.zs := fun i hil => by
      obtain ⟨cs', h1, h2⟩ := hi i (by omega)
      obtain ⟨r, rfl, hr⟩ := isInts_of_cells he hf hc' h2
      obtain ⟨_, _, hat⟩ := World.cells?_some h1
      refine ⟨r, ?_, hr⟩
      have := hat 0 (by omega)
      simpa [Addr.add] using this
    have hex : ∀ n, n ≤ len → ∃ rs : List Row, rs.length = n ∧ (∀ i, i < n → w.cell? (x.add i) = some ((rs.map Row.val).getD i (.bool false))) ∧ ∀ r ∈ rs, IsInts k w r.a r.len r.cap r.zs := by
      intro n
      induction n with
      | zero => intro _; exact ⟨[], rfl, fun i h => absurd h (by omega), by simp⟩
      | succ n ih =>
        intro hn
        obtain ⟨rs, h1, h2, h3⟩ := ih (by omega)
        obtain ⟨r, hr1, hr2⟩ := hrow n (by omega)
        refine ⟨rs ++ [r], by simp [h1], fun i hi' => ?_, fun q hq => ?_⟩
        · by_cases e : i = n
          · subst e
            rw [hr1]
            simp [List.getD_eq_getElem?_getD, h1]
          · rw [h2 i (by omega)]
            simp [List.getD_eq_getElem?_getD, List.getElem?_append_left, h1, show i < n by omega]
        · rcases List.mem_append.1 hq with hq | hq
          · exact h3 q hq
          · rw [List.mem_singleton.1 hq]; exact hr2
    obtain ⟨rs, h1, h2, h3⟩ := hex len (Nat.le_refl _)
    exact ⟨rs, isSlice_mk hl hm (by simpa using h1) h2, h3⟩
end
theorem IsRows.len {k : IntKind} {w : World} {a : Option Addr} {len cap : Nat} {rs : List Row} (h : IsRows k w a len cap rs) : rs.length = len := by have := h.1.1; rwa [List.length_map] at this
theorem IsRows.at {k : IntKind} {w : World} {a : Option Addr} {len cap : Nat} {rs : List Row} (h : IsRows k w a len cap rs) (i : Nat) (hi : i < len) :
    ∃ b off r, a = some ⟨b, off, none⟩ ∧ b < w.heap.size ∧ rs[i]? = some r ∧ w.cell? ⟨b, off + i, none⟩ = some (.slice r.a r.len r.cap) ∧ IsInts k w r.a r.len r.cap r.zs := by
  have hl := h.len
  obtain ⟨⟨h1, _, _, _, h5⟩, h6⟩ := h
  obtain ⟨b, off, e, hb, hc⟩ := h5 (by omega)
  have hir : i < rs.length := by omega
  refine ⟨b, off, rs[i], e, hb, List.getElem?_eq_getElem hir, ?_, h6 _ (List.getElem_mem hir)⟩
  rw [hc i hi]
  simp [List.getD_eq_getElem?_getD, List.getElem?_eq_getElem hir, Row.val]
end Go.Proofs.Ytakokgjbffielaa
