/-
  What IsPrimitiveLiteral and KnownPrimitiveType give of a built value, whatever becomes of the out block. No condition.
-/
import Derived.Test.YtfbmadlcjpaddaaCpy
import Derived.Test.YtfbmadlcjpaddaaTas
import Derived.WideLaws
import Derived.WalkSmall
import Derived.Deep.RegionHeld3
namespace Go.Proofs.Ytfbmadlcjpaddaa
open Go.ChangeShapes Go.WideShapes Go.ChangeAt Go.RowKit
set_option linter.unusedVariables false

/-- What the two readers give of v. -/
structure Lit (v : Value) (p : Bool) (t : Int) (w : World) : Prop where
  prim : Calls Try.prog 19 #[v] w fun e w' => e = .returned (.bool p) ∧ w = w'
  kind : p = true → Calls Try.prog 11 #[v] w fun e w' => e = .returned (.int .u8 t) ∧ w = w'
/-- Blocks but for O are as they were. -/
def Kx (O : Nat) (w w' : World) : Prop := w.heap.size ≤ w'.heap.size ∧ ∀ b, b < w.heap.size → b ≠ O → w'.heap[b]? = w.heap[b]?
theorem Kx.refl (O : Nat) (w : World) : Kx O w w := ⟨Nat.le_refl _, fun _ _ _ => rfl⟩
theorem Kx.trans {O : Nat} {a b c : World} (h : Kx O a b) (k : Kx O b c) : Kx O a c :=
  ⟨Nat.le_trans h.1 k.1, fun x h1 h2 => (k.2 x (Nat.lt_of_lt_of_le h1 h.1) h2).trans (h.2 x h1 h2)⟩
theorem Kx.of_below {O : Nat} {w w' : World} (h : Below w.heap.size w w') : Kx O w w' := ⟨h.size, fun b h1 _ => h.block b h1⟩
theorem Kx.alloc {O : Nat} {a w : World} (h : Kx O a w) (o : Obj) : Kx O a (w.alloc o) := h.trans (.of_below ((Below.refl _ _).alloc (Nat.le_refl _) _))
theorem Kx.set {O : Nat} {a w : World} (h : Kx O a w) (o : Nat) (v : Value) : Kx O a (w.setCell ⟨O, o, none⟩ v) :=
  h.trans ⟨by simp, fun b _ h2 => Below.heap_setCell w _ _ b h2⟩
theorem Kx.cell {O : Nat} {w w' : World} (h : Kx O w w') {b o : Nat} (h1 : b < w.heap.size) (h2 : b ≠ O) : w'.cell? ⟨b, o, none⟩ = w.cell? ⟨b, o, none⟩ :=
  World.cell?_of_block (w := w) (h.2 b h1 h2)
def Nif (v : Value) : Prop := v = .nilIface ∨ ∃ T x, v = .iface T x
structure Good (O : Nat) (w : World) (v : Value) : Prop where
  nif : Nif v
  lit : ∃ p t, (2 ≤ t ∧ t ≤ 7) ∧ ∀ w', Kx O w w' → Lit v p t w'
theorem Good.later {O : Nat} {w w' : World} {v : Value} (h : Good O w v) (k : Kx O w w') : Good O w' v := by
  obtain ⟨p, t, r, hl⟩ := h.lit
  exact ⟨h.nif, p, t, r, fun w2 k2 => hl w2 (k.trans k2)⟩
theorem is20 (t : Int) (h : 2 ≤ t ∧ t ≤ 7) (w : World) : Calls Try.prog 20 #[.int .u8 t] w fun e w' => e = .returned (.bool true) ∧ w = w' := by
  have : t = 2 ∨ t = 3 ∨ t = 4 ∨ t = 5 ∨ t = 6 ∨ t = 7 := by omega
  rcases this with rfl | rfl | rfl | rfl | rfl | rfl
  all_goals
    go_enter Try.func20, Try.ntmps20
    go_wp2_with fail
    go_ret
    exact ⟨rfl, rfl⟩
set_option maxRecDepth 100000 in
theorem lit_nil (w : World) : Lit .nilIface false 2 w := by
  constructor
  · go_enter Try.func19, Try.ntmps19
    go_wp2_with fail
    go_ret
    exact ⟨rfl, rfl⟩
  · intro h; cases h
set_option maxRecDepth 100000 in
theorem lit69 (b : Nat) (w : World) : Lit (.iface 69 (.pointer (some ⟨b, 0, none⟩))) false 2 w := by
  constructor
  · go_enter Try.func19, Try.ntmps19
    go_wp2_with fail
    go_ret
    exact ⟨rfl, rfl⟩
  · intro h; cases h
theorem good69 (O b : Nat) (w : World) : Good O w (.iface 69 (.pointer (some ⟨b, 0, none⟩))) := ⟨.inr ⟨_, _, rfl⟩, false, 2, by omega, fun w' _ => lit69 b w'⟩
set_option maxRecDepth 100000 in
theorem lit103 (b : Nat) (w : World) : Lit (.iface 103 (.pointer (some ⟨b, 0, none⟩))) false 2 w := by
  constructor
  · go_enter Try.func19, Try.ntmps19
    go_wp2_with fail
    go_ret
    exact ⟨rfl, rfl⟩
  · intro h; cases h
theorem good103 (O b : Nat) (w : World) : Good O w (.iface 103 (.pointer (some ⟨b, 0, none⟩))) := ⟨.inr ⟨_, _, rfl⟩, false, 2, by omega, fun w' _ => lit103 b w'⟩
set_option maxRecDepth 100000 in
theorem lit130 (b : Nat) (w : World) : Lit (.iface 130 (.pointer (some ⟨b, 0, none⟩))) false 2 w := by
  constructor
  · go_enter Try.func19, Try.ntmps19
    go_wp2_with fail
    go_ret
    exact ⟨rfl, rfl⟩
  · intro h; cases h
theorem good130 (O b : Nat) (w : World) : Good O w (.iface 130 (.pointer (some ⟨b, 0, none⟩))) := ⟨.inr ⟨_, _, rfl⟩, false, 2, by omega, fun w' _ => lit130 b w'⟩
set_option maxRecDepth 100000 in
theorem lit126 (b : Nat) (w : World) : Lit (.iface 126 (.pointer (some ⟨b, 0, none⟩))) false 2 w := by
  constructor
  · go_enter Try.func19, Try.ntmps19
    go_wp2_with fail
    go_ret
    exact ⟨rfl, rfl⟩
  · intro h; cases h
theorem good126 (O b : Nat) (w : World) : Good O w (.iface 126 (.pointer (some ⟨b, 0, none⟩))) := ⟨.inr ⟨_, _, rfl⟩, false, 2, by omega, fun w' _ => lit126 b w'⟩
set_option maxRecDepth 100000 in
theorem lit92 (b : Nat) (w : World) : Lit (.iface 92 (.pointer (some ⟨b, 0, none⟩))) false 2 w := by
  constructor
  · go_enter Try.func19, Try.ntmps19
    go_wp2_with fail
    go_ret
    exact ⟨rfl, rfl⟩
  · intro h; cases h
theorem good92 (O b : Nat) (w : World) : Good O w (.iface 92 (.pointer (some ⟨b, 0, none⟩))) := ⟨.inr ⟨_, _, rfl⟩, false, 2, by omega, fun w' _ => lit92 b w'⟩
set_option maxRecDepth 100000 in
theorem lit96 (b : Nat) (w : World) : Lit (.iface 96 (.pointer (some ⟨b, 0, none⟩))) false 2 w := by
  constructor
  · go_enter Try.func19, Try.ntmps19
    go_wp2_with fail
    go_ret
    exact ⟨rfl, rfl⟩
  · intro h; cases h
theorem good96 (O b : Nat) (w : World) : Good O w (.iface 96 (.pointer (some ⟨b, 0, none⟩))) := ⟨.inr ⟨_, _, rfl⟩, false, 2, by omega, fun w' _ => lit96 b w'⟩
set_option maxRecDepth 100000 in
theorem lit113 (b : Nat) (w : World) : Lit (.iface 113 (.pointer (some ⟨b, 0, none⟩))) false 2 w := by
  constructor
  · go_enter Try.func19, Try.ntmps19
    go_wp2_with fail
    go_ret
    exact ⟨rfl, rfl⟩
  · intro h; cases h
theorem good113 (O b : Nat) (w : World) : Good O w (.iface 113 (.pointer (some ⟨b, 0, none⟩))) := ⟨.inr ⟨_, _, rfl⟩, false, 2, by omega, fun w' _ => lit113 b w'⟩
set_option maxRecDepth 100000 in
theorem lit136 (b : Nat) (w : World) : Lit (.iface 136 (.pointer (some ⟨b, 0, none⟩))) false 2 w := by
  constructor
  · go_enter Try.func19, Try.ntmps19
    go_wp2_with fail
    go_ret
    exact ⟨rfl, rfl⟩
  · intro h; cases h
theorem good136 (O b : Nat) (w : World) : Good O w (.iface 136 (.pointer (some ⟨b, 0, none⟩))) := ⟨.inr ⟨_, _, rfl⟩, false, 2, by omega, fun w' _ => lit136 b w'⟩
set_option maxRecDepth 100000 in
theorem lit137 (b : Nat) (w : World) : Lit (.iface 137 (.pointer (some ⟨b, 0, none⟩))) false 2 w := by
  constructor
  · go_enter Try.func19, Try.ntmps19
    go_wp2_with fail
    go_ret
    exact ⟨rfl, rfl⟩
  · intro h; cases h
theorem good137 (O b : Nat) (w : World) : Good O w (.iface 137 (.pointer (some ⟨b, 0, none⟩))) := ⟨.inr ⟨_, _, rfl⟩, false, 2, by omega, fun w' _ => lit137 b w'⟩
set_option maxRecDepth 100000 in
theorem lit57 (b : Nat) (w : World) : Lit (.iface 57 (.pointer (some ⟨b, 0, none⟩))) false 2 w := by
  constructor
  · go_enter Try.func19, Try.ntmps19
    go_wp2_with fail
    go_ret
    exact ⟨rfl, rfl⟩
  · intro h; cases h
theorem good57 (O b : Nat) (w : World) : Good O w (.iface 57 (.pointer (some ⟨b, 0, none⟩))) := ⟨.inr ⟨_, _, rfl⟩, false, 2, by omega, fun w' _ => lit57 b w'⟩
set_option maxRecDepth 100000 in
theorem lit74 (b : Nat) (w : World) : Lit (.iface 74 (.pointer (some ⟨b, 0, none⟩))) true 2 w := by
  constructor
  · go_enter Try.func19, Try.ntmps19
    go_wp2_with fail
    go_ret
    exact ⟨rfl, rfl⟩
  · intro _
    go_enter Try.func11, Try.ntmps11
    go_wp2_with fail
    go_ret
    exact ⟨rfl, rfl⟩
theorem good74 (O b : Nat) (w : World) : Good O w (.iface 74 (.pointer (some ⟨b, 0, none⟩))) := ⟨.inr ⟨_, _, rfl⟩, true, 2, by omega, fun w' _ => lit74 b w'⟩
set_option maxRecDepth 100000 in
theorem lit77 (b : Nat) (w : World) : Lit (.iface 77 (.pointer (some ⟨b, 0, none⟩))) true 3 w := by
  constructor
  · go_enter Try.func19, Try.ntmps19
    go_wp2_with fail
    go_ret
    exact ⟨rfl, rfl⟩
  · intro _
    go_enter Try.func11, Try.ntmps11
    go_wp2_with fail
    go_ret
    exact ⟨rfl, rfl⟩
theorem good77 (O b : Nat) (w : World) : Good O w (.iface 77 (.pointer (some ⟨b, 0, none⟩))) := ⟨.inr ⟨_, _, rfl⟩, true, 3, by omega, fun w' _ => lit77 b w'⟩
set_option maxRecDepth 100000 in
theorem lit65 (b : Nat) (w : World) : Lit (.iface 65 (.pointer (some ⟨b, 0, none⟩))) true 4 w := by
  constructor
  · go_enter Try.func19, Try.ntmps19
    go_wp2_with fail
    go_ret
    exact ⟨rfl, rfl⟩
  · intro _
    go_enter Try.func11, Try.ntmps11
    go_wp2_with fail
    go_ret
    exact ⟨rfl, rfl⟩
theorem good65 (O b : Nat) (w : World) : Good O w (.iface 65 (.pointer (some ⟨b, 0, none⟩))) := ⟨.inr ⟨_, _, rfl⟩, true, 4, by omega, fun w' _ => lit65 b w'⟩
set_option maxRecDepth 100000 in
theorem lit79 (b : Nat) (w : World) : Lit (.iface 79 (.pointer (some ⟨b, 0, none⟩))) true 5 w := by
  constructor
  · go_enter Try.func19, Try.ntmps19
    go_wp2_with fail
    go_ret
    exact ⟨rfl, rfl⟩
  · intro _
    go_enter Try.func11, Try.ntmps11
    go_wp2_with fail
    go_ret
    exact ⟨rfl, rfl⟩
theorem good79 (O b : Nat) (w : World) : Good O w (.iface 79 (.pointer (some ⟨b, 0, none⟩))) := ⟨.inr ⟨_, _, rfl⟩, true, 5, by omega, fun w' _ => lit79 b w'⟩
set_option maxRecDepth 100000 in
theorem lit82 (b : Nat) (w : World) : Lit (.iface 82 (.pointer (some ⟨b, 0, none⟩))) true 6 w := by
  constructor
  · go_enter Try.func19, Try.ntmps19
    go_wp2_with fail
    go_ret
    exact ⟨rfl, rfl⟩
  · intro _
    go_enter Try.func11, Try.ntmps11
    go_wp2_with fail
    go_ret
    exact ⟨rfl, rfl⟩
theorem good82 (O b : Nat) (w : World) : Good O w (.iface 82 (.pointer (some ⟨b, 0, none⟩))) := ⟨.inr ⟨_, _, rfl⟩, true, 6, by omega, fun w' _ => lit82 b w'⟩
set_option maxRecDepth 100000 in
theorem lit58 (b : Nat) (w : World) : Lit (.iface 58 (.pointer (some ⟨b, 0, none⟩))) true 7 w := by
  constructor
  · go_enter Try.func19, Try.ntmps19
    go_wp2_with fail
    go_ret
    exact ⟨rfl, rfl⟩
  · intro _
    go_enter Try.func11, Try.ntmps11
    go_wp2_with fail
    go_ret
    exact ⟨rfl, rfl⟩
theorem good58 (O b : Nat) (w : World) : Good O w (.iface 58 (.pointer (some ⟨b, 0, none⟩))) := ⟨.inr ⟨_, _, rfl⟩, true, 7, by omega, fun w' _ => lit58 b w'⟩
set_option maxRecDepth 100000 in
theorem lit106 (b : Nat) (p : Bool) (t : Int) (v : Value) (w : World) (hv : Nif v) (hc : w.cell? ⟨b, 0, none⟩ = some v) (K : Lit v p t w) : Lit (.iface 106 (.pointer (some ⟨b, 0, none⟩))) p t w := by
  have K1 := Lib.hid K.prim
  have K2 := Lib.hid K.kind
  clear K
  rcases hv with rfl | ⟨T0, x0, rfl⟩
  all_goals
    constructor
    · clear K2
      go_enter Try.func19, Try.ntmps19
      go_wp2_with (go_at_call 19; (with_reducible refine K1.out.mono ?_); rintro _ _ ⟨rfl, rfl⟩)
      go_ret
      exact ⟨rfl, rfl⟩
    · intro hp
      have K3 := Lib.hid (K2.out hp)
      clear K1 K2 hp
      go_enter Try.func11, Try.ntmps11
      go_wp2_with (go_at_call 11; (with_reducible refine K3.out.mono ?_); rintro _ _ ⟨rfl, rfl⟩)
      go_ret
      exact ⟨rfl, rfl⟩
theorem good106 (O b : Nat) (v : Value) (w : World) (hv : Good O w v) (hc : w.cell? ⟨b, 0, none⟩ = some v) (h1 : b < w.heap.size) (h2 : b ≠ O) : Good O w (.iface 106 (.pointer (some ⟨b, 0, none⟩))) := by
  obtain ⟨p, t, r, hl⟩ := hv.lit
  exact ⟨.inr ⟨_, _, rfl⟩, p, t, r, fun w' k => lit106 b p t v w' hv.nif (by rw [k.cell h1 h2]; exact hc) (hl w' k)⟩
set_option maxRecDepth 100000 in
theorem lit110 (b : Nat) (p : Bool) (t : Int) (v : Value) (w : World) (hv : Nif v) (hc : w.cell? ⟨b, 0, none⟩ = some v) (K : Lit v p t w) : Lit (.iface 110 (.pointer (some ⟨b, 0, none⟩))) p t w := by
  have K1 := Lib.hid K.prim
  have K2 := Lib.hid K.kind
  clear K
  rcases hv with rfl | ⟨T0, x0, rfl⟩
  all_goals
    constructor
    · clear K2
      go_enter Try.func19, Try.ntmps19
      go_wp2_with (go_at_call 19; (with_reducible refine K1.out.mono ?_); rintro _ _ ⟨rfl, rfl⟩)
      go_ret
      exact ⟨rfl, rfl⟩
    · intro hp
      have K3 := Lib.hid (K2.out hp)
      clear K1 K2 hp
      go_enter Try.func11, Try.ntmps11
      go_wp2_with (go_at_call 11; (with_reducible refine K3.out.mono ?_); rintro _ _ ⟨rfl, rfl⟩)
      go_ret
      exact ⟨rfl, rfl⟩
theorem good110 (O b : Nat) (v : Value) (w : World) (hv : Good O w v) (hc : w.cell? ⟨b, 0, none⟩ = some v) (h1 : b < w.heap.size) (h2 : b ≠ O) : Good O w (.iface 110 (.pointer (some ⟨b, 0, none⟩))) := by
  obtain ⟨p, t, r, hl⟩ := hv.lit
  exact ⟨.inr ⟨_, _, rfl⟩, p, t, r, fun w' k => lit110 b p t v w' hv.nif (by rw [k.cell h1 h2]; exact hc) (hl w' k)⟩
theorem good_nil (O : Nat) (w : World) : Good O w .nilIface := ⟨.inl rfl, false, 2, by omega, fun w' _ => lit_nil w'⟩
end Go.Proofs.Ytfbmadlcjpaddaa
