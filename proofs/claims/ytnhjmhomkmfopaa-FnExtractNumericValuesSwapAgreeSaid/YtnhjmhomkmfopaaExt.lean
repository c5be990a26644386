/-
  Wrapped expressions: what extractNumericValue gives of one, whatever becomes of the blocks beside it. No condition.
-/
import Derived.Test.YtnhjmhomkmfopaaClones
import Derived.Test.YtnhjmhomkmfopaaTas
import Derived.Test.YtnhjmhomkmfopaaFord
import Derived.WideLaws
import Derived.WalkSmall
import Derived.Deep.QuietTactic
import Derived.BigQuiet
namespace Go.Proofs.Ytnhjmhomkmfopaa
open Go.ChangeShapes Go.WideShapes Go.ChangeAt Go.RowKit
set_option linter.unusedVariables false

/-- Blocks from lo on, but for B, are as they were. -/
def Keeps (lo B : Nat) (w w' : World) : Prop := w.heap.size ≤ w'.heap.size ∧ ∀ b, lo ≤ b → b < w.heap.size → b ≠ B → w'.heap[b]? = w.heap[b]?
theorem Keeps.refl (lo B : Nat) (w : World) : Keeps lo B w w := ⟨Nat.le_refl _, fun _ _ _ _ => rfl⟩
theorem Keeps.trans {lo B : Nat} {a b c : World} (h : Keeps lo B a b) (k : Keeps lo B b c) : Keeps lo B a c :=
  ⟨Nat.le_trans h.1 k.1, fun x h1 h2 h3 => (k.2 x h1 (Nat.lt_of_lt_of_le h2 h.1) h3).trans (h.2 x h1 h2 h3)⟩
theorem Keeps.of_below {lo B : Nat} {w w' : World} (h : Below w.heap.size w w') : Keeps lo B w w' := ⟨h.size, fun b _ h2 _ => h.block b h2⟩
theorem Keeps.alloc {lo B : Nat} {a w : World} (h : Keeps lo B a w) (o : Obj) : Keeps lo B a (w.alloc o) := h.trans (.of_below ((Below.refl _ _).alloc (Nat.le_refl _) _))
theorem Keeps.setCell {lo B : Nat} {a w : World} (h : Keeps lo B a w) (o : Nat) (v : Value) : Keeps lo B a (w.setCell ⟨B, o, none⟩ v) :=
  h.trans ⟨by simp, fun b _ _ h3 => Below.heap_setCell w _ _ b h3⟩
theorem Keeps.setLow {lo B : Nat} {a w : World} (h : Keeps lo B a w) {A : Nat} (hA : A < lo) (o : Nat) (v : Value) : Keeps lo B a (w.setCell ⟨A, o, none⟩ v) :=
  h.trans ⟨by simp, fun b h1 _ _ => Below.heap_setCell w _ _ b (by show b ≠ A; omega)⟩
theorem Keeps.cell {lo B : Nat} {w w' : World} (h : Keeps lo B w w') {b o : Nat} (h1 : lo ≤ b) (h2 : b < w.heap.size) (h3 : b ≠ B) : w'.cell? ⟨b, o, none⟩ = w.cell? ⟨b, o, none⟩ :=
  World.cell?_of_block (w := w) (h.2 b h1 h2 h3)

/-- In every such world extractNumericValue of v is (r, ok). -/
def Ext (lo B : Nat) (w : World) (v : Value) (r : Nat) (ok : Bool) : Prop :=
  ∀ w', Keeps lo B w w' → Calls Try.prog 23 #[v] w' fun e w'' => e = .returned (.tuple #[.float .f64 r, .bool ok]) ∧ Below w'.heap.size w' w''
theorem Ext.later {lo B : Nat} {w w' : World} {v : Value} {r : Nat} {ok : Bool} (h : Ext lo B w v r ok) (k : Keeps lo B w w') : Ext lo B w' v r ok := fun w2 k2 => h w2 (k.trans k2)
def Iface (v : Value) : Prop := v = .nilIface ∨ ∃ T x, v = .iface T x

set_option maxRecDepth 100000 in
theorem x_nil  (w : World)  : Calls Try.prog 23 #[.nilIface] w fun e w' => e = .returned (.tuple #[.float .f64 0, .bool false]) ∧ Below w.heap.size w w' := by
  go_enter Try.func23, Try.ntmps23
  go_wp2_with fail
  go_ret2
  exact ⟨rfl, by go_grown⟩
set_option maxRecDepth 100000 in
theorem x_59 (b : Nat) (w : World)  : Calls Try.prog 23 #[.iface 59 (.pointer (some ⟨b, 0, none⟩))] w fun e w' => e = .returned (.tuple #[.float .f64 0, .bool false]) ∧ Below w.heap.size w w' := by
  go_enter Try.func23, Try.ntmps23
  go_wp2_with fail
  go_ret2
  exact ⟨rfl, by go_grown⟩
set_option maxRecDepth 100000 in
theorem x_63 (b : Nat) (w : World)  : Calls Try.prog 23 #[.iface 63 (.pointer (some ⟨b, 0, none⟩))] w fun e w' => e = .returned (.tuple #[.float .f64 0, .bool false]) ∧ Below w.heap.size w w' := by
  go_enter Try.func23, Try.ntmps23
  go_wp2_with fail
  go_ret2
  exact ⟨rfl, by go_grown⟩
set_option maxRecDepth 100000 in
theorem x_66 (b : Nat) (w : World)  : Calls Try.prog 23 #[.iface 66 (.pointer (some ⟨b, 0, none⟩))] w fun e w' => e = .returned (.tuple #[.float .f64 0, .bool false]) ∧ Below w.heap.size w w' := by
  go_enter Try.func23, Try.ntmps23
  go_wp2_with fail
  go_ret2
  exact ⟨rfl, by go_grown⟩
set_option maxRecDepth 100000 in
theorem x_72 (b : Nat) (w : World)  : Calls Try.prog 23 #[.iface 72 (.pointer (some ⟨b, 0, none⟩))] w fun e w' => e = .returned (.tuple #[.float .f64 0, .bool false]) ∧ Below w.heap.size w w' := by
  go_enter Try.func23, Try.ntmps23
  go_wp2_with fail
  go_ret2
  exact ⟨rfl, by go_grown⟩
set_option maxRecDepth 100000 in
theorem x_75 (b : Nat) (w : World)  : Calls Try.prog 23 #[.iface 75 (.pointer (some ⟨b, 0, none⟩))] w fun e w' => e = .returned (.tuple #[.float .f64 0, .bool false]) ∧ Below w.heap.size w w' := by
  go_enter Try.func23, Try.ntmps23
  go_wp2_with fail
  go_ret2
  exact ⟨rfl, by go_grown⟩
set_option maxRecDepth 100000 in
theorem x_78 (b : Nat) (w : World)  : Calls Try.prog 23 #[.iface 78 (.pointer (some ⟨b, 0, none⟩))] w fun e w' => e = .returned (.tuple #[.float .f64 0, .bool false]) ∧ Below w.heap.size w w' := by
  go_enter Try.func23, Try.ntmps23
  go_wp2_with fail
  go_ret2
  exact ⟨rfl, by go_grown⟩
set_option maxRecDepth 100000 in
theorem x_81 (b : Nat) (w : World)  : Calls Try.prog 23 #[.iface 81 (.pointer (some ⟨b, 0, none⟩))] w fun e w' => e = .returned (.tuple #[.float .f64 0, .bool false]) ∧ Below w.heap.size w w' := by
  go_enter Try.func23, Try.ntmps23
  go_wp2_with fail
  go_ret2
  exact ⟨rfl, by go_grown⟩
set_option maxRecDepth 100000 in
theorem x_num (b r : Nat) (w : World) (hc : w.cell? ⟨b, 0, none⟩ = some (.float .f64 r)) : Calls Try.prog 23 #[.iface 69 (.pointer (some ⟨b, 0, none⟩))] w fun e w' => e = .returned (.tuple #[.float .f64 r, .bool true]) ∧ Below w.heap.size w w' := by
  go_enter Try.func23, Try.ntmps23
  go_wp2_with fail
  go_ret2
  exact ⟨rfl, by go_grown⟩
set_option maxRecDepth 100000 in
theorem x_52 (b r : Nat) (ok : Bool) (v : Value) (w : World) (hv : Iface v) (hc : w.cell? ⟨b, 0, none⟩ = some v)
    (K : Calls Try.prog 23 #[v] w fun e w' => e = .returned (.tuple #[.float .f64 r, .bool ok]) ∧ Below w.heap.size w w') :
    Calls Try.prog 23 #[.iface 52 (.pointer (some ⟨b, 0, none⟩))] w fun e w' => e = .returned (.tuple #[.float .f64 r, .bool ok]) ∧ Below w.heap.size w w' := by
  have KK := Lib.hid K
  clear K
  rcases hv with rfl | ⟨T, x, rfl⟩
  all_goals
    go_enter Try.func23, Try.ntmps23
    go_wp2_with (go_at_call 23; refine KK.out.mono ?_; rintro e w' ⟨rfl, hb⟩)
    go_ret2
    exact ⟨rfl, by go_grown⟩
set_option maxRecDepth 100000 in
theorem x_56 (b r : Nat) (ok : Bool) (v : Value) (w : World) (hv : Iface v) (hc : w.cell? ⟨b, 0, none⟩ = some v)
    (K : Calls Try.prog 23 #[v] w fun e w' => e = .returned (.tuple #[.float .f64 r, .bool ok]) ∧ Below w.heap.size w w') :
    Calls Try.prog 23 #[.iface 56 (.pointer (some ⟨b, 0, none⟩))] w fun e w' => e = .returned (.tuple #[.float .f64 r, .bool ok]) ∧ Below w.heap.size w w' := by
  have KK := Lib.hid K
  clear K
  rcases hv with rfl | ⟨T, x, rfl⟩
  all_goals
    go_enter Try.func23, Try.ntmps23
    go_wp2_with (go_at_call 23; refine KK.out.mono ?_; rintro e w' ⟨rfl, hb⟩)
    go_ret2
    exact ⟨rfl, by go_grown⟩

/-- What a leaf is good for: its blocks lie from lo on. -/
def Leaf (lo : Nat) (r : Nat) (ok : Bool) (w : World) (e : Ending) (w' : World) : Prop :=
  ∃ v, e = .returned (.agg #[v, .int .i32 0]) ∧ Iface v ∧ Ext lo w'.heap.size w' v r ok ∧ Below w.heap.size w w'
def leafR (k : Int) (v : Nat) : Nat := if k % 6 = 0 then v else 0
def leafOk (k : Int) : Bool := decide (k % 6 = 0)
set_option maxRecDepth 100000 in
set_option maxHeartbeats 1000000 in
theorem leaf (a0 : Int) (a1 : Nat) (a : Option Addr) (len cap : Nat) (w : World) (h0 : 0 ≤ a0) :
    Calls Try.prog 22 #[.int .u8 a0, .float .f64 a1, .slice a len cap] w (Leaf w.heap.size (leafR a0 a1) (leafOk a0) w) := by
  have h : a0 % 6 = 0 ∨ a0 % 6 = 1 ∨ a0 % 6 = 2 ∨ a0 % 6 = 3 ∨ a0 % 6 = 4 ∨ a0 % 6 = 5 := by omega
  rcases h with h | h | h | h | h | h
  · have e1 : leafR a0 a1 = a1 := by unfold leafR; rw [if_pos h]
    have e2 : leafOk a0 = true := by unfold leafOk; rw [h]; rfl
    rw [e1, e2]; clear e1 e2
    go_enter Try.func22, Try.ntmps22
    go_wp2
    refine bodyPost_ret (by simp [results, Try.results22, go_sem]; rfl) rfl ⟨_, rfl, .inr ⟨_, _, rfl⟩, fun w' k => x_num _ _ _ ?_, by go_grown⟩
    rw [k.cell (by simp) (by simp) (by simp)]; simp [go_sem]
  · have e1 : leafR a0 a1 = 0 := by unfold leafR; rw [if_neg (by omega)]
    have e2 : leafOk a0 = false := by unfold leafOk; rw [h]; rfl
    rw [e1, e2]; clear e1 e2
    go_enter Try.func22, Try.ntmps22
    go_wp2
    exact bodyPost_ret (by simp [results, Try.results22, go_sem]; rfl) rfl ⟨_, rfl, .inr ⟨_, _, rfl⟩, fun w' k => x_72 _ _, by go_grown⟩
  · have e1 : leafR a0 a1 = 0 := by unfold leafR; rw [if_neg (by omega)]
    have e2 : leafOk a0 = false := by unfold leafOk; rw [h]; rfl
    rw [e1, e2]; clear e1 e2
    go_enter Try.func22, Try.ntmps22
    go_wp2
    exact bodyPost_ret (by simp [results, Try.results22, go_sem]; rfl) rfl ⟨_, rfl, .inr ⟨_, _, rfl⟩, fun w' k => x_75 _ _, by go_grown⟩
  · have e1 : leafR a0 a1 = 0 := by unfold leafR; rw [if_neg (by omega)]
    have e2 : leafOk a0 = false := by unfold leafOk; rw [h]; rfl
    rw [e1, e2]; clear e1 e2
    go_enter Try.func22, Try.ntmps22
    go_wp2
    exact bodyPost_ret (by simp [results, Try.results22, go_sem]; rfl) rfl ⟨_, rfl, .inr ⟨_, _, rfl⟩, fun w' k => x_78 _ _, by go_grown⟩
  · have e1 : leafR a0 a1 = 0 := by unfold leafR; rw [if_neg (by omega)]
    have e2 : leafOk a0 = false := by unfold leafOk; rw [h]; rfl
    rw [e1, e2]; clear e1 e2
    go_enter Try.func22, Try.ntmps22
    go_wp2
    exact bodyPost_ret (by simp [results, Try.results22, go_sem]; rfl) rfl ⟨_, rfl, .inr ⟨_, _, rfl⟩, fun w' k => x_81 _ _, by go_grown⟩
  · have e1 : leafR a0 a1 = 0 := by unfold leafR; rw [if_neg (by omega)]
    have e2 : leafOk a0 = false := by unfold leafOk; rw [h]; rfl
    rw [e1, e2]; clear e1 e2
    go_enter Try.func22, Try.ntmps22
    go_wp2
    exact bodyPost_ret (by simp [results, Try.results22, go_sem]) rfl ⟨_, rfl, .inl rfl, fun w' k => x_nil _, by go_grown⟩
end Go.Proofs.Ytnhjmhomkmfopaa
