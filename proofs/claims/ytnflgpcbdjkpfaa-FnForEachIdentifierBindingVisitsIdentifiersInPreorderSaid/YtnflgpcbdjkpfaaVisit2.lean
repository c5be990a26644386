/-
  The visit of a tree. No condition.
-/
import Derived.Test.YtnflgpcbdjkpfaaVisit
import Derived.Test.YtnflgpcbdjkpfaaTas
import Derived.Laws.OwnMore
namespace Go.Proofs.Ytnflgpcbdjkpfaa
open Go.ChangeShapes Go.WideShapes Go.ChangeAt Go.RowKit
set_option linter.unusedVariables false
set_option linter.unusedSimpArgs false

theorem flat_at {α : Type} (f : α → List Value) (sz : Nat) (hf : ∀ x, (f x).length = sz) : ∀ (l : List α) (j i : Nat) (hj : j < l.length), i < sz → (l.flatMap f)[j * sz + i]? = (f l[j])[i]?
  | [], j, i, hj, _ => absurd hj (by simp)
  | a :: l, 0, i, _, hi => by
    rw [List.flatMap_cons, List.getElem?_append_left (by rw [hf]; omega)]
    simp
  | a :: l, j + 1, i, hj, hi => by
    have h1 : (j + 1) * sz + i = sz + (j * sz + i) := by rw [Nat.succ_mul]; omega
    rw [List.flatMap_cons, List.getElem?_append_right (by rw [hf, h1]; omega), hf, h1, Nat.add_sub_cancel_left, flat_at f sz hf l j i (by simpa using hj) hi]
    simp
/-- The tree's blocks stand as in w0. -/
def KB (w0 w : World) : Prop := ∀ b, TB w0 b → w.heap[b]? = w0.heap[b]?
theorem KB.fr {w0 w w' : World} {base : Nat} (h : KB w0 w) (hf : Fr (S4 base w) w w') : KB w0 w' := fun b hb => by
  have e := h b hb
  obtain ⟨cs, t, hh, ht⟩ := hb
  rw [hh] at e ⊢
  refine (hf.block b (Array.getElem?_eq_some_iff.1 e).1 ?_).trans e
  rintro ⟨cs', t', hh', ht', _⟩
  rw [e] at hh'
  simp at hh'
  obtain ⟨_, rfl⟩ := hh'
  rcases ht with rfl | rfl | rfl | rfl | rfl <;> simp at ht'
theorem KB.alloc {w0 w : World} (h : KB w0 w) (o : Obj) (hle : w0.heap.size ≤ w.heap.size) : KB w0 (w.alloc o) := fun b hb => by
  have e := h b hb
  have := hb.lt
  exact (Below.heap_alloc w o b (by omega)).trans e
theorem KB.bk {w0 w : World} (h : KB w0 w) {n t : Nat} {cs : Array Value} (hb : Bk w0 n t cs) (ht : t = 41 ∨ t = 63 ∨ t = 69 ∨ t = 60 ∨ t = 66) : Bk w n t cs := (h n ⟨cs, t, hb, ht⟩).trans hb
theorem KB.own {w0 w : World} (h : KB w0 w) {base e size n : Nat} {v : Value} {xs : List Value} (ho : w0.ownsRow base e size v n xs) (ht : e = 41 ∨ e = 63 ∨ e = 69 ∨ e = 60 ∨ e = 66) : w.ownsRow base e size v n xs := by
  refine ⟨ho.1, ?_⟩
  rcases ho.2 with q | ⟨g', cap, cur, rfl, hb, hh, hr⟩
  · exact .inl q
  · exact .inr ⟨g', cap, cur, rfl, hb, (h g' ⟨cur, e, hh, ht⟩).trans hh, hr⟩
theorem Cb.fr {base bl br : Nat} {L : List Nat} {v1 v2 : Value} {w w' : World} (h : Cb base bl br L v1 v2 w) (hb : Below w.heap.size w w') : Cb base bl br L v1 v2 w' where
  b1 := h.b1.below hb h.b1.lt
  b2 := h.b2.below hb h.b2.lt
  o1 := own_fr h.o1 (Fr.ofBelow hb) fun g hg => by have := (own_lt h.o1 g hg).2; omega
  o2 := own_fr h.o2 (Fr.ofBelow hb) fun g hg => by have := (own_lt h.o2 g hg).2; omega
  h1 := h.h1
  h2 := h.h2
def cbv (bl br : Nat) : Value := .func (Fn.func 9) #[] #[.pointer (some ⟨bl, 0, none⟩), .pointer (some ⟨br, 0, none⟩)]
def Vis (base bl br : Nat) (w0 : World) (x : Bd) (l : List Nat) : Prop := ∀ (w : World) (L : List Nat) (v1 v2 : Value), KB w0 w → w0.heap.size ≤ w.heap.size → Cb base bl br L v1 v2 w → L.length + l.length ≤ 1048576 → Calls Try.prog 8 #[x.v, cbv bl br] w (Called base bl br L l w)
set_option maxRecDepth 100000 in
set_option maxHeartbeats 4000000 in
theorem vis_miss (base bl br : Nat) (w0 : World) (q : Value) (p : Nat) : Vis base bl br w0 ⟨50, q, p⟩ [] := by
  intro w L v1 v2 hk hsz h hL
  unfold Bd.v cbv
  dsimp only
  have hx : Cb base bl br (L ++ []) v1 v2 (w.alloc (.cells #[.iface 50 q, .int .i32 (p : Int)] 30)) := by
    rw [List.append_nil]
    exact h.fr ((Below.refl _ w).alloc (Nat.le_refl _) _)
  have HX := Lib.hid hx
  clear hx h hk
  go_enter Try.func8, Try.ntmps8
  go_wp2
  go_end0
  exact ⟨rfl, _, _, HX.out, (Fr.refl _ w).alloc _⟩
set_option maxRecDepth 100000 in
set_option maxHeartbeats 4000000 in
theorem vis_id (base bl br : Nat) (w0 : World) (n p : Nat) (hn : Bk w0 n 41 #[.int .u32 0, .int .u32 p]) : Vis base bl br w0 ⟨36, .pointer (some ⟨n, 0, none⟩), p⟩ [p] := by
  intro w L v1 v2 hk hsz h hL
  unfold Bd.v cbv
  dsimp only
  have hx : Cb base bl br L v1 v2 (w.alloc (.cells #[.iface 36 (.pointer (some ⟨n, 0, none⟩)), .int .i32 (p : Int)] 30)) := h.fr ((Below.refl _ w).alloc (Nat.le_refl _) _)
  have HC := Lib.hid (callback hx ((hk.bk hn (.inl rfl)).alloc _) (by simp at hL; omega))
  clear hx h hk hn
  go_enter Try.func8, Try.ntmps8
  go_wp2_with (first | (go_at_call 9; (with_reducible refine HC.out.mono ?_); rintro _ w1 ⟨rfl, v1', v2', hcb, hfr⟩; have HCB := Lib.hid hcb; have HFR := Lib.hid hfr; clear hcb hfr))
  go_end0
  exact ⟨rfl, _, _, HCB.out, S4.trans ((Fr.refl _ w).alloc _) HFR.out⟩
end Go.Proofs.Ytnflgpcbdjkpfaa
