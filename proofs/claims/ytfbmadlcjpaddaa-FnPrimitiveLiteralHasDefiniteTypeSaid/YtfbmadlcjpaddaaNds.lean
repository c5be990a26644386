/-
  A slice of the law's nodes that came in: what its reading gives. No condition.
-/
import Derived.Test.YtfbmadlcjpaddaaCl
import Derived.Test.YtfbmadlcjpaddaaOwn
import Derived.Test.YtfbmadlcjpaddaaProg
import Derived.WideLaws
import Derived.WalkSmall
namespace Go.Proofs.Ytfbmadlcjpaddaa
open Go.ChangeShapes Go.WideShapes Go.ChangeAt Go.RowKit
set_option linter.unusedVariables false

/-- One node's seven cells from o on. -/
structure Nod (w : World) (b o : Nat) (k op : Int) (f : Bool) (c a1 a2 a3 : Int) : Prop where
  k0 : w.cell? ⟨b, o, none⟩ = some (.int .u8 k)
  k1 : w.cell? ⟨b, o + 1, none⟩ = some (.int .u8 op)
  k2 : w.cell? ⟨b, o + 2, none⟩ = some (.bool f)
  k3 : w.cell? ⟨b, o + 3, none⟩ = some (.int .u8 c)
  k4 : w.cell? ⟨b, o + 4, none⟩ = some (.int .i32 a1)
  k5 : w.cell? ⟨b, o + 5, none⟩ = some (.int .i32 a2)
  k6 : w.cell? ⟨b, o + 6, none⟩ = some (.int .i32 a3)
  rk : 0 ≤ k ∧ k ≤ 255
  r1 : -2147483648 ≤ a1 ∧ a1 ≤ 2147483647
  r2 : -2147483648 ≤ a2 ∧ a2 ≤ 2147483647
  r3 : -2147483648 ≤ a3 ∧ a3 ≤ 2147483647
def IsNods (w : World) (a : Option Addr) (len cap : Nat) : Prop :=
  len ≤ cap ∧ cap ≤ maxLen ∧ (a = none → cap = 0) ∧ (0 < len → ∃ b off, a = some ⟨b, off, none⟩ ∧ b < w.heap.size ∧ ∀ i, i < len → ∃ k op f c a1 a2 a3, Nod w b (off + i * 7) k op f c a1 a2 a3)
theorem Nod.below {w w' : World} {B b o : Nat} {k op : Int} {f : Bool} {c a1 a2 a3 : Int} (h : Nod w b o k op f c a1 a2 a3) (hb : Below B w w') (hlt : b < B) : Nod w' b o k op f c a1 a2 a3 :=
  ⟨(hb.cell (p := ⟨b, _, none⟩) hlt).trans h.k0, (hb.cell (p := ⟨b, _, none⟩) hlt).trans h.k1, (hb.cell (p := ⟨b, _, none⟩) hlt).trans h.k2, (hb.cell (p := ⟨b, _, none⟩) hlt).trans h.k3,
   (hb.cell (p := ⟨b, _, none⟩) hlt).trans h.k4, (hb.cell (p := ⟨b, _, none⟩) hlt).trans h.k5, (hb.cell (p := ⟨b, _, none⟩) hlt).trans h.k6, h.rk, h.r1, h.r2, h.r3⟩
theorem IsNods.below {w w' : World} {a : Option Addr} {len cap : Nat} (h : IsNods w a len cap) (hb : Below w.heap.size w w') : IsNods w' a len cap := by
  obtain ⟨h1, h2, h3, h4⟩ := h
  refine ⟨h1, h2, h3, fun h0 => ?_⟩
  obtain ⟨b, off, e, hlt, hc⟩ := h4 h0
  exact ⟨b, off, e, Nat.lt_of_lt_of_le hlt hb.size, fun i hi => by
    obtain ⟨k, op, f, c, a1, a2, a3, n⟩ := hc i hi
    exact ⟨k, op, f, c, a1, a2, a3, n.below hb hlt⟩⟩
section
variable {H : Type} {enc : TypeId × Value → H} {w : World} {held : Bool}
theorem int_field {t : TypeId} {k : IntKind} {fuel : Nat} {cs : List Value} {x : DataW H × List MemPlace} {o : Nat} (ht : Try.prog.underlying t = some (.int k)) (hc : Try.prog.cellsOf t = 1)
    (h : DataW.trod enc Try.prog w 0 (fun _ => true) held fuel t ((cs.drop o).take (Try.prog.cellsOf t)) = some x) : ∃ n, cs[o]? = some (.int k n) ∧ (Lit.int k n).wf = true := by
  rw [hc] at h
  obtain ⟨n, hn, _, hw⟩ := DataW.trod_int ht h
  refine ⟨n, ?_, hw⟩
  have := congrArg (·[0]?) hn
  simpa [List.getElem?_take, List.getElem?_drop] using this
theorem bool_field {t : TypeId} {fuel : Nat} {cs : List Value} {x : DataW H × List MemPlace} {o : Nat} (ht : Try.prog.underlying t = some .bool) (hc : Try.prog.cellsOf t = 1)
    (h : DataW.trod enc Try.prog w 0 (fun _ => true) held fuel t ((cs.drop o).take (Try.prog.cellsOf t)) = some x) : ∃ n, cs[o]? = some (.bool n) := by
  rw [hc] at h
  obtain ⟨n, hn⟩ : ∃ n, (cs.drop o).take 1 = [.bool n] := by
    cases fuel with
    | zero => simp [DataW.trod] at h
    | succ m =>
      unfold DataW.trod at h
      rw [ht] at h
      split at h <;> simp_all
  refine ⟨n, ?_⟩
  have := congrArg (·[0]?) hn
  simpa [List.getElem?_take, List.getElem?_drop] using this
theorem u8r {n : Int} (h : (Lit.int .u8 n).wf = true) : 0 ≤ n ∧ n ≤ 255 := by simpa [Lit.wf, IntKind.min, IntKind.max, IntKind.signed, IntKind.bits] using h
theorem i32r {n : Int} (h : (Lit.int .i32 n).wf = true) : -2147483648 ≤ n ∧ n ≤ 2147483647 := by simpa [Lit.wf, IntKind.min, IntKind.max, IntKind.signed, IntKind.bits] using h
theorem isNods_of_trod {a : Option Addr} {len cap : Nat} {d : DataW H} {p : List MemPlace}
    (h : DataW.Trod enc Try.prog w 0 (fun _ => true) held 39 (.slice a len cap) d p) : IsNods w a len cap := by
  obtain ⟨fuel, hf⟩ := h
  rcases DataW.trod_slice Try.underlying39 hf with ⟨hcs, _⟩ | ⟨x, l, c, elems, rest, n, _, hcs, _, _, hl, hm, hlen, hel, _, _⟩
  · simp [Value.cells] at hcs
    obtain ⟨rfl, rfl, rfl⟩ := hcs
    exact ⟨Nat.le_refl _, Nat.zero_le _, fun _ => rfl, fun h => absurd h (by omega)⟩
  · simp [Value.cells] at hcs
    obtain ⟨rfl, rfl, rfl⟩ := hcs
    have c7 : Try.prog.cellsOf 141 = 7 := by kernel_rfl
    have one : ∀ i, i < len → ∃ cs, w.cells? 0 (x.add (i * 7)) 7 = some cs ∧ ∃ y, DataW.trod enc Try.prog w 0 (fun _ => true) held n 141 cs = some y := by
      intro i hi
      have q := hel i hi
      rw [c7] at q
      obtain ⟨y, hy⟩ : ∃ y, elems[i]? = some y := ⟨_, List.getElem?_eq_getElem (by omega)⟩
      rw [hy] at q
      obtain ⟨cs, h1, h2⟩ := Option.bind_eq_some_iff.1 q
      exact ⟨cs, h1, y, h2⟩
    refine ⟨hl, hm, fun h => by simp at h, fun h0 => ?_⟩
    obtain ⟨b, off, spot⟩ := x
    have cell : ∀ i, i < len → ∃ k op f c a1 a2 a3, (∀ j v, [Value.int .u8 k, .int .u8 op, .bool f, .int .u8 c, .int .i32 a1, .int .i32 a2, .int .i32 a3][j]? = some v → w.cell? (((⟨b, off, spot⟩ : Addr).add (i * 7)).add j) = some v) ∧ (0 ≤ k ∧ k ≤ 255) ∧ (-2147483648 ≤ a1 ∧ a1 ≤ 2147483647) ∧ (-2147483648 ≤ a2 ∧ a2 ≤ 2147483647) ∧ (-2147483648 ≤ a3 ∧ a3 ≤ 2147483647) := by
      intro i hi
      obtain ⟨cs, h1, y, h2⟩ := one i hi
      obtain ⟨_, hlc, hcell⟩ := World.cells?_some h1
      obtain ⟨xs, m, _, _, _, hx, hall⟩ := DataW.trod_struct Try.underlying141 h2
      have hget : ∀ j, j < 7 → ∃ y, xs[j]? = some y := fun j hj => ⟨_, List.getElem?_eq_getElem (by rw [hx]; exact hj)⟩
      obtain ⟨y0, g0⟩ := hget 0 (by omega); obtain ⟨y1, g1⟩ := hget 1 (by omega); obtain ⟨y2, g2⟩ := hget 2 (by omega); obtain ⟨y3, g3⟩ := hget 3 (by omega)
      obtain ⟨y4, g4⟩ := hget 4 (by omega); obtain ⟨y5, g5⟩ := hget 5 (by omega); obtain ⟨y6, g6⟩ := hget 6 (by omega)
      obtain ⟨v0, e0, r0⟩ := int_field (o := 0) Try.underlying5 (by kernel_rfl) ((hall 0 _ rfl).trans g0)
      obtain ⟨v1, e1, r1⟩ := int_field (o := 1) Try.underlying5 (by kernel_rfl) ((hall 1 _ rfl).trans g1)
      obtain ⟨v2, e2⟩ := bool_field (o := 2) Try.underlying4 (by kernel_rfl) ((hall 2 _ rfl).trans g2)
      obtain ⟨v3, e3, r3⟩ := int_field (o := 3) Try.underlying5 (by kernel_rfl) ((hall 3 _ rfl).trans g3)
      obtain ⟨v4, e4, r4⟩ := int_field (o := 4) Try.underlying21 (by kernel_rfl) ((hall 4 _ rfl).trans g4)
      obtain ⟨v5, e5, r5⟩ := int_field (o := 5) Try.underlying21 (by kernel_rfl) ((hall 5 _ rfl).trans g5)
      obtain ⟨v6, e6, r6⟩ := int_field (o := 6) Try.underlying21 (by kernel_rfl) ((hall 6 _ rfl).trans g6)
      refine ⟨v0, v1, v2, v3, v4, v5, v6, fun j v hv => ?_, u8r r0, i32r r4, i32r r5, i32r r6⟩
      have hj : j < 7 := by
        false_or_by_contra
        rw [List.getElem?_eq_none (by simp; omega)] at hv; cases hv
      rw [hcell j hj, ← hv]
      rcases (by omega : j = 0 ∨ j = 1 ∨ j = 2 ∨ j = 3 ∨ j = 4 ∨ j = 5 ∨ j = 6) with rfl | rfl | rfl | rfl | rfl | rfl | rfl <;> simp_all
    obtain ⟨k, op, f, c', a1, a2, a3, hc, _⟩ := cell 0 h0
    have q0 := hc 0 _ rfl
    have hspot : spot = none := by simpa [Addr.add] using World.cell?_spot q0
    subst hspot
    refine ⟨b, off, rfl, ?_, fun i hi => ?_⟩
    · false_or_by_contra
      rename_i hb
      simp [World.cell?, Addr.add, Array.getElem?_eq_none (Nat.le_of_not_lt hb)] at q0
    · obtain ⟨k, op, f, c', a1, a2, a3, hc, rk, r1, r2, r3⟩ := cell i hi
      have ad : ∀ j, ((⟨b, off, none⟩ : Addr).add (i * 7)).add j = ⟨b, off + i * 7 + j, none⟩ := fun j => by rw [Go.WideShapes.add_plain, Go.WideShapes.add_plain]
      simp only [ad] at hc
      exact ⟨k, op, f, c', a1, a2, a3, hc 0 _ rfl, hc 1 _ rfl, hc 2 _ rfl, hc 3 _ rfl, hc 4 _ rfl, hc 5 _ rfl, hc 6 _ rfl, rk, r1, r2, r3⟩
end
end Go.Proofs.Ytfbmadlcjpaddaa
