/-
  The contract of b3Child. No condition.
-/
import Derived.Test.YtfbmadlcjpaddaaGds
namespace Go.Proofs.Ytfbmadlcjpaddaa
open Go.ChangeShapes Go.WideShapes Go.ChangeAt Go.RowKit
set_option linter.unusedVariables false

/-- The out block: every cell good. -/
structure Out (O n : Nat) (w : World) : Prop where
  lt : O < w.heap.size
  free : ∀ j, w.frozen? ⟨O, j, none⟩ = false
  cell : ∀ j, j < n → ∃ v l, w.cell? ⟨O, j * 2, none⟩ = some v ∧ w.cell? ⟨O, j * 2 + 1, none⟩ = some (.int .i32 l) ∧ Good O w v
theorem Out.below {O n : Nat} {w w' : World} (h : Out O n w) (b : Below w.heap.size w w') : Out O n w' := by
  refine ⟨Nat.lt_of_lt_of_le h.lt b.size, fun j => ?_, fun j hj => ?_⟩
  · rw [b.frozen (p := ⟨O, j, none⟩) h.lt]; exact h.free j
  · obtain ⟨v, l, h1, h2, g⟩ := h.cell j hj
    exact ⟨v, l, (b.cell (p := ⟨O, j * 2, none⟩) h.lt).trans h1, (b.cell (p := ⟨O, j * 2 + 1, none⟩) h.lt).trans h2, g.later (.of_below b)⟩
theorem Out.set {O n : Nat} {w : World} (h : Out O n w) {k : Nat} (hk : k < n) {v : Value} (g : Good O w v) : Out O n (w.setCell ⟨O, k * 2, none⟩ v) := by
  refine ⟨by simpa using h.lt, fun j => by simpa using h.free j, fun j hj => ?_⟩
  obtain ⟨u, l, h1, h2, g1⟩ := h.cell j hj
  by_cases e : j = k
  · subst e
    exact ⟨v, l, World.cell?_setCell_same _ _ _ h1, by rw [sc_ne (by omega)]; exact h2, g.later ((Kx.refl _ _).set _ _)⟩
  · exact ⟨u, l, by rw [sc_ne (by omega)]; exact h1, by rw [sc_ne (by omega)]; exact h2, g1.later ((Kx.refl _ _).set _ _)⟩
/-- A good expression, returned. -/
def Gave (O : Nat) (w : World) (e : Ending) (w' : World) : Prop := ∃ v l, e = .returned (.agg #[v, .int .i32 l]) ∧ Nif v ∧ Good O w' v ∧ Below w.heap.size w w'
set_option maxRecDepth 100000 in
theorem child39 (O n : Nat) (i : Nat) (x : Int) (w : World) (hn : n ≤ 4096) (hi : i < n) (hx : -2147483648 ≤ x ∧ x ≤ 2147483647) (h : Out O n w) :
    Calls Try.prog 39 #[.int .i64 n, .slice (some ⟨O, 0, none⟩) n n, .int .i64 i, .int .i32 x] w (Gave O w) := by
  obtain ⟨bb, hbb⟩ : ∃ bb, bb = decide ((i : Int) < x ∧ x < n) := ⟨_, rfl⟩
  have H38 := Lib.hid (fun W => ok38 n i x hn (by omega) hx bb hbb W)
  cases bb
  · clear hbb
    go_enter Try.func39, Try.ntmps39
    go_wp2_with (go_at_call 38; (with_reducible refine (H38.out _).mono ?_); rintro _ _ ⟨rfl, rfl⟩)
    refine bodyPost_ret (by simp [results, Try.results39, go_sem]; rfl) rfl ⟨_, _, rfl, .inl rfl, good_nil _ _, by go_grown⟩
  · obtain ⟨hx1, hx2⟩ := of_decide_eq_true hbb.symm
    obtain ⟨q, rfl⟩ : ∃ q : Nat, x = q := ⟨x.toNat, by omega⟩
    have hq : q < n := by omega
    obtain ⟨v, l, h1, h2, g⟩ := h.cell q hq
    have G := Lib.hid g
    have lt := h.lt
    clear hbb g h
    go_enter Try.func39, Try.ntmps39
    rcases G.out.nif with rfl | ⟨T, y, rfl⟩
    all_goals
      go_wp2_with (go_at_call 38; (with_reducible refine (H38.out _).mono ?_); rintro _ _ ⟨rfl, rfl⟩)
      refine bodyPost_ret (by simp [results, Try.results39, go_sem]; rfl) rfl ⟨_, _, rfl, G.out.nif, G.out.later ?_, by go_grown⟩
      exact .of_below (by go_grown)
/-- The child's value is fixed ahead. -/
theorem child_at (O n : Nat) (i : Nat) (x : Int) (w : World) (hn : n ≤ 4096) (hi : i < n) (hx : -2147483648 ≤ x ∧ x ≤ 2147483647) (h : Out O n w) :
    ∃ v l, Nif v ∧ Good O w v ∧ ∀ W, Below w.heap.size w W → Calls Try.prog 39 #[.int .i64 n, .slice (some ⟨O, 0, none⟩) n n, .int .i64 i, .int .i32 x] W fun e w' => e = .returned (.agg #[v, .int .i32 l]) ∧ Below W.heap.size W w' := by
  obtain ⟨bb, hbb⟩ : ∃ bb, bb = decide ((i : Int) < x ∧ x < n) := ⟨_, rfl⟩
  have H38 := Lib.hid (fun W => ok38 n i x hn (by omega) hx bb hbb W)
  cases bb
  · clear hbb
    refine ⟨.nilIface, 0, .inl rfl, good_nil _ _, fun W _ => ?_⟩
    clear h
    go_enter Try.func39, Try.ntmps39
    go_wp2_with (go_at_call 38; (with_reducible refine (H38.out _).mono ?_); rintro _ _ ⟨rfl, rfl⟩)
    refine bodyPost_ret (by simp [results, Try.results39, go_sem]) rfl ⟨rfl, by go_grown⟩
  · obtain ⟨hx1, hx2⟩ := of_decide_eq_true hbb.symm
    obtain ⟨q, rfl⟩ : ∃ q : Nat, x = q := ⟨x.toNat, by omega⟩
    have hq : q < n := by omega
    obtain ⟨v, l, h1, h2, g⟩ := h.cell q hq
    refine ⟨v, l, g.nif, g, fun W bw => ?_⟩
    have e1 : W.cell? ⟨O, q * 2, none⟩ = some v := (bw.cell (p := ⟨O, q * 2, none⟩) h.lt).trans h1
    have e2 : W.cell? ⟨O, q * 2 + 1, none⟩ = some (.int .i32 l) := (bw.cell (p := ⟨O, q * 2 + 1, none⟩) h.lt).trans h2
    have lt : O < W.heap.size := Nat.lt_of_lt_of_le h.lt bw.size
    have hnv := g.nif
    clear hbb g h h1 h2 bw
    go_enter Try.func39, Try.ntmps39
    rcases hnv with rfl | ⟨T, y, rfl⟩
    all_goals
      go_wp2_with (go_at_call 38; (with_reducible refine (H38.out _).mono ?_); rintro _ _ ⟨rfl, rfl⟩)
      refine bodyPost_ret (by simp [results, Try.results39, go_sem]) rfl ⟨rfl, by go_grown⟩
end Go.Proofs.Ytfbmadlcjpaddaa
