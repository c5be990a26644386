/-
  Leaves and wrapped leaves: what the three readers give of one, whatever becomes of other memory. No condition.
-/
import Derived.Test.YtfacphjjmmfegaaTas
import Derived.Test.YtfacphjjmmfegaaOwn
import Derived.Test.YtfacphjjmmfegaaCl
import Derived.WideLaws
import Derived.WalkSmall
import Derived.Deep.QuietTactic
import Derived.BigQuiet
namespace Go.Proofs.Ytfacphjjmmfegaa
open Go.ChangeShapes Go.WideShapes Go.ChangeAt Go.RowKit
set_option linter.unusedVariables false

def Iface (v : Value) : Prop := ∃ T x, v = .iface T x
/-- What extractNumericValue, extractStringValue and IsPrimitiveLiteral give of v. -/
structure Reads (v : Value) (s : Bool) (r : Nat) (sv : Value) (w : World) : Prop where
  num : Calls Try.prog 18 #[v] w fun e w' => e = .returned (.tuple #[.float .f64 (if s then 0 else r), .bool (!s)]) ∧ w = w'
  str : Calls Try.prog 23 #[v] w fun e w' => e = .returned (.tuple #[if s then sv else .slice none 0 0, .bool s]) ∧ w = w'
  prim : Calls Try.prog 17 #[v] w fun e w' => e = .returned (.bool true) ∧ w = w'
/-- Blocks but for B and R are as they were. -/
def Kp (B R : Nat) (w w' : World) : Prop := w.heap.size ≤ w'.heap.size ∧ ∀ b, b < w.heap.size → b ≠ B → b ≠ R → w'.heap[b]? = w.heap[b]?
theorem Kp.refl (B R : Nat) (w : World) : Kp B R w w := ⟨Nat.le_refl _, fun _ _ _ _ => rfl⟩
theorem Kp.trans {B R : Nat} {a b c : World} (h : Kp B R a b) (k : Kp B R b c) : Kp B R a c :=
  ⟨Nat.le_trans h.1 k.1, fun x h1 h2 h3 => (k.2 x (Nat.lt_of_lt_of_le h1 h.1) h2 h3).trans (h.2 x h1 h2 h3)⟩
theorem Kp.of_below {B R : Nat} {w w' : World} (h : Below w.heap.size w w') : Kp B R w w' := ⟨h.size, fun b h1 _ _ => h.block b h1⟩
theorem Kp.alloc {B R : Nat} {a w : World} (h : Kp B R a w) (o : Obj) : Kp B R a (w.alloc o) := h.trans (.of_below ((Below.refl _ _).alloc (Nat.le_refl _) _))
theorem Kp.setB {B R : Nat} {a w : World} (h : Kp B R a w) (o : Nat) (v : Value) : Kp B R a (w.setCell ⟨B, o, none⟩ v) :=
  h.trans ⟨by simp, fun b _ h2 _ => Below.heap_setCell w _ _ b h2⟩
theorem Kp.setR {B R : Nat} {a w : World} (h : Kp B R a w) (o : Nat) (v : Value) : Kp B R a (w.setCell ⟨R, o, none⟩ v) :=
  h.trans ⟨by simp, fun b _ _ h3 => Below.heap_setCell w _ _ b h3⟩
theorem Kp.cell {B R : Nat} {w w' : World} (h : Kp B R w w') {b o : Nat} (h1 : b < w.heap.size) (h2 : b ≠ B) (h3 : b ≠ R) : w'.cell? ⟨b, o, none⟩ = w.cell? ⟨b, o, none⟩ :=
  World.cell?_of_block (w := w) (h.2 b h1 h2 h3)
def Ext (B R : Nat) (w : World) (v : Value) (s : Bool) (r : Nat) (sv : Value) : Prop := ∀ w', Kp B R w w' → Reads v s r sv w'
theorem Ext.later {B R : Nat} {w w' : World} {v : Value} {s : Bool} {r : Nat} {sv : Value} (h : Ext B R w v s r sv) (k : Kp B R w w') : Ext B R w' v s r sv := fun w2 k2 => h w2 (k.trans k2)
/-- The old blocks are as they were. -/
def Old (w w' : World) : Prop := w.heap.size ≤ w'.heap.size ∧ ∀ b, b < w.heap.size → w'.heap[b]? = w.heap[b]?
theorem Old.of_below {w w' : World} (b : Below w.heap.size w w') : Old w w' := ⟨b.size, fun x h => b.block x h⟩
theorem Old.cell {w w' : World} (h : Old w w') {b o : Nat} (h1 : b < w.heap.size) : w'.cell? ⟨b, o, none⟩ = w.cell? ⟨b, o, none⟩ := World.cell?_of_block (w := w) (h.2 b h1)
/-- In every later world. -/
def Kn (w : World) (v : Value) (s : Bool) (r : Nat) (sv : Value) : Prop := Iface v ∧ ∀ w', Old w w' → Reads v s r sv w'
theorem Kn.old {w w' : World} {v : Value} {s : Bool} {r : Nat} {sv : Value} (h : Kn w v s r sv) (b : Old w w') : Kn w' v s r sv :=
  ⟨h.1, fun w2 b2 => h.2 w2 ⟨Nat.le_trans b.1 b2.1, fun x hx => (b2.2 x (Nat.lt_of_lt_of_le hx b.1)).trans (b.2 x hx)⟩⟩
theorem Kn.below {w w' : World} {v : Value} {s : Bool} {r : Nat} {sv : Value} (h : Kn w v s r sv) (b : Below w.heap.size w w') : Kn w' v s r sv := h.old (.of_below b)

set_option maxRecDepth 100000 in
theorem r_num (b r : Nat) (sv : Value) (w : World) (hc : w.cell? ⟨b, 0, none⟩ = some (.float .f64 r)) : Reads (.iface 45 (.pointer (some ⟨b, 0, none⟩))) false r sv w := by
  constructor
  · go_enter Try.func18, Try.ntmps18
    go_wp2_with fail
    go_ret2
    exact ⟨rfl, rfl⟩
  · go_enter Try.func23, Try.ntmps23
    go_wp2_with fail
    go_ret2
    exact ⟨rfl, rfl⟩
  · go_enter Try.func17, Try.ntmps17
    go_wp2_with fail
    go_ret
    exact ⟨rfl, rfl⟩
set_option maxRecDepth 100000 in
theorem r_str (b : Nat) (a : Option Addr) (len cap r : Nat) (w : World) (hc : w.cell? ⟨b, 0, none⟩ = some (.slice a len cap)) : Reads (.iface 42 (.pointer (some ⟨b, 0, none⟩))) true r (.slice a len cap) w := by
  constructor
  · go_enter Try.func18, Try.ntmps18
    go_wp2_with fail
    go_ret2
    exact ⟨rfl, rfl⟩
  · go_enter Try.func23, Try.ntmps23
    go_wp2_with fail
    go_ret2
    exact ⟨rfl, rfl⟩
  · go_enter Try.func17, Try.ntmps17
    go_wp2_with fail
    go_ret
    exact ⟨rfl, rfl⟩
set_option maxRecDepth 100000 in
theorem r_wrap (T : Nat) (hT : T = 48 ∨ T = 52) (b : Nat) (s : Bool) (r : Nat) (sv v : Value) (w : World) (hv : Iface v) (hc : w.cell? ⟨b, 0, none⟩ = some v) (K : Reads v s r sv w) :
    Reads (.iface T (.pointer (some ⟨b, 0, none⟩))) s r sv w := by
  have K1 := Lib.hid K.num
  have K2 := Lib.hid K.str
  have K3 := Lib.hid K.prim
  clear K
  obtain ⟨T0, x, rfl⟩ := hv
  cases s <;> rcases hT with rfl | rfl
  all_goals
    simp only [if_true, if_false, Bool.false_eq_true, Bool.not_true, Bool.not_false] at K1 K2
    constructor
    · go_enter Try.func18, Try.ntmps18
      go_wp2_with (go_at_call 18; (with_reducible refine K1.out.mono ?_); rintro _ _ ⟨rfl, rfl⟩)
      go_ret2
      exact ⟨rfl, rfl⟩
    · go_enter Try.func23, Try.ntmps23
      go_wp2_with (go_at_call 23; (with_reducible refine K2.out.mono ?_); rintro _ _ ⟨rfl, rfl⟩)
      go_ret2
      exact ⟨rfl, rfl⟩
    · go_enter Try.func17, Try.ntmps17
      go_wp2_with (go_at_call 17; (with_reducible refine K3.out.mono ?_); rintro _ _ ⟨rfl, rfl⟩)
      go_ret
      exact ⟨rfl, rfl⟩
end Go.Proofs.Ytfacphjjmmfegaa
