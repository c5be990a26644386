/-
  What zzType gives; what a built expression is good for in the law on Assign. No condition.
-/
import Derived.Test.YtfbmadlcjpaddaaKnown
import Derived.Test.YtfbmadlcjpaddaaBa
import Derived.Test.YtfbmadlcjpaddaaBb
import Derived.Test.YtfbmadlcjpaddaaBc
import Derived.WideLaws
import Derived.WalkSmall
import Derived.Deep.RegionHeld3
namespace Go.Proofs.Ytfbmadlcjpaddaa
open Go.ChangeShapes Go.WideShapes Go.ChangeAt Go.RowKit
set_option linter.unusedVariables false

/-- In every world that keeps w's blocks, KnownPrimitiveType of v is t. -/
def Knows (w : World) (v : Value) (t : Int) : Prop := ∀ w', Below w.heap.size w w' → Calls Try.prog 11 #[v] w' fun e w'' => e = .returned (.int .u8 t) ∧ Below w'.heap.size w' w''
def Iface (v : Value) : Prop := v = .nilIface ∨ ∃ T x, v = .iface T x
/-- What zzBuild gives, for whatever shape. -/
def Built (t a4 : Int) (w : World) (e : Ending) (w' : World) : Prop := ∃ v, e = .returned (.agg #[v, .int .i32 a4]) ∧ Iface v ∧ Knows w' v t ∧ Below w.heap.size w w'
def tyOf (k : Int) : Int := if k = 0 then 2 else if k = 1 then 3 else if k = 2 then 4 else if k = 3 then 5 else if k = 4 then 6 else if k = 5 then 7 else if k = 10 then 6 else if k = 11 then 3 else if k = 12 then 4 else if k = 13 then 5 else if k = 14 then 6 else 0
theorem twenty {a0 : Int} (h0 : 0 ≤ a0) : a0 % 20 = 0 ∨ a0 % 20 = 1 ∨ a0 % 20 = 2 ∨ a0 % 20 = 3 ∨ a0 % 20 = 4 ∨ a0 % 20 = 5 ∨ a0 % 20 = 6 ∨ a0 % 20 = 7 ∨ a0 % 20 = 8 ∨ a0 % 20 = 9 ∨ a0 % 20 = 10 ∨ a0 % 20 = 11 ∨ a0 % 20 = 12 ∨ a0 % 20 = 13 ∨ a0 % 20 = 14 ∨ a0 % 20 = 15 ∨ a0 % 20 = 16 ∨ a0 % 20 = 17 ∨ a0 % 20 = 18 ∨ a0 % 20 = 19 := by omega
theorem built (a0 : Int) (a1 : Int) (a2 : Bool) (a3 : Nat) (a4 : Int) (w : World) (h0 : 0 ≤ a0) :
    Calls Try.prog 8 #[.int .u8 a0, .int .u8 a1, .bool a2, .float .f64 a3, .int .i32 a4] w (Built (tyOf (a0 % 20)) a4 w) := by
  rcases twenty h0 with h | h | h | h | h | h | h | h | h | h | h | h | h | h | h | h | h | h | h | h
  · rw [h]; refine (build0 a0 a1 a2 a3 a4 w h0 h).mono ?_
    rintro e w' ⟨v, rfl, ⟨b, rfl, hlt⟩, hb⟩
    exact ⟨_, rfl, .inr ⟨_, _, rfl⟩, fun w2 hb2 => known0 b w2, hb⟩
  · rw [h]; refine (build1 a0 a1 a2 a3 a4 w h0 h).mono ?_
    rintro e w' ⟨v, rfl, ⟨b, rfl, hlt⟩, hb⟩
    exact ⟨_, rfl, .inr ⟨_, _, rfl⟩, fun w2 hb2 => known1 b w2, hb⟩
  · rw [h]; refine (build2 a0 a1 a2 a3 a4 w h0 h).mono ?_
    rintro e w' ⟨v, rfl, ⟨b, rfl, hlt⟩, hb⟩
    exact ⟨_, rfl, .inr ⟨_, _, rfl⟩, fun w2 hb2 => known2 b w2, hb⟩
  · rw [h]; refine (build3 a0 a1 a2 a3 a4 w h0 h).mono ?_
    rintro e w' ⟨v, rfl, ⟨b, rfl, hlt⟩, hb⟩
    exact ⟨_, rfl, .inr ⟨_, _, rfl⟩, fun w2 hb2 => known3 b w2, hb⟩
  · rw [h]; refine (build4 a0 a1 a2 a3 a4 w h0 h).mono ?_
    rintro e w' ⟨v, rfl, ⟨b, rfl, hlt⟩, hb⟩
    exact ⟨_, rfl, .inr ⟨_, _, rfl⟩, fun w2 hb2 => known4 b w2, hb⟩
  · rw [h]; refine (build5 a0 a1 a2 a3 a4 w h0 h).mono ?_
    rintro e w' ⟨v, rfl, ⟨b, rfl, hlt⟩, hb⟩
    exact ⟨_, rfl, .inr ⟨_, _, rfl⟩, fun w2 hb2 => known5 b w2, hb⟩
  · rw [h]; refine (build6 a0 a1 a2 a3 a4 w h0 h).mono ?_
    rintro e w' ⟨v, rfl, ⟨b, rfl, hlt⟩, hb⟩
    exact ⟨_, rfl, .inr ⟨_, _, rfl⟩, fun w2 hb2 => known6 b w2, hb⟩
  · rw [h]; refine (build7 a0 a1 a2 a3 a4 w h0 h).mono ?_
    rintro e w' ⟨v, rfl, ⟨b, rfl, hlt⟩, hb⟩
    exact ⟨_, rfl, .inr ⟨_, _, rfl⟩, fun w2 hb2 => known7 b w2, hb⟩
  · rw [h]; refine (build8 a0 a1 a2 a3 a4 w h0 h).mono ?_
    rintro e w' ⟨v, rfl, ⟨b, rfl, hlt⟩, hb⟩
    exact ⟨_, rfl, .inr ⟨_, _, rfl⟩, fun w2 hb2 => known8 b w2, hb⟩
  · rw [h]; refine (build9 a0 a1 a2 a3 a4 w h0 h).mono ?_
    rintro e w' ⟨v, rfl, ⟨b, rfl, hlt⟩, hb⟩
    exact ⟨_, rfl, .inr ⟨_, _, rfl⟩, fun w2 hb2 => known9 b w2, hb⟩
  · rw [h]; refine (build10 a0 a1 a2 a3 a4 w h0 h).mono ?_
    rintro e w' ⟨v, rfl, ⟨b, rfl, hlt, hc⟩, hb⟩
    exact ⟨_, rfl, .inr ⟨_, _, rfl⟩, fun w2 hb2 => known10 b w2 (by rw [hb2.cell (p := ⟨b, 2, none⟩) hlt]; exact hc), hb⟩
  · rw [h]; refine (build11 a0 a1 a2 a3 a4 w h0 h).mono ?_
    rintro e w' ⟨v, rfl, ⟨b, rfl, hlt, hc⟩, hb⟩
    exact ⟨_, rfl, .inr ⟨_, _, rfl⟩, fun w2 hb2 => known11 b w2 (by rw [hb2.cell (p := ⟨b, 2, none⟩) hlt]; exact hc), hb⟩
  · rw [h]; refine (build12 a0 a1 a2 a3 a4 w h0 h).mono ?_
    rintro e w' ⟨v, rfl, ⟨b, rfl, hlt, hc⟩, hb⟩
    exact ⟨_, rfl, .inr ⟨_, _, rfl⟩, fun w2 hb2 => known12 b w2 (by rw [hb2.cell (p := ⟨b, 4, none⟩) hlt]; exact hc), hb⟩
  · rw [h]; refine (build13 a0 a1 a2 a3 a4 w h0 h).mono ?_
    rintro e w' ⟨v, rfl, ⟨b, y, rfl, hlt, hc⟩, hb⟩
    exact ⟨_, rfl, .inr ⟨_, _, rfl⟩, fun w2 hb2 => known13 b y w2 (by rw [hb2.cell (p := ⟨b, 0, none⟩) hlt]; exact hc), hb⟩
  · rw [h]; refine (build14 a0 a1 a2 a3 a4 w h0 h).mono ?_
    rintro e w' ⟨v, rfl, ⟨b, y, rfl, hlt, hc⟩, hb⟩
    exact ⟨_, rfl, .inr ⟨_, _, rfl⟩, fun w2 hb2 => known14 b y w2 (by rw [hb2.cell (p := ⟨b, 0, none⟩) hlt]; exact hc), hb⟩
  · rw [h]; refine (build15 a0 a1 a2 a3 a4 w h0 h).mono ?_
    rintro e w' ⟨v, rfl, rfl, hb⟩
    exact ⟨_, rfl, .inl rfl, fun w2 hb2 => known15 w2, hb⟩
  · rw [h]; refine (build16 a0 a1 a2 a3 a4 w h0 h).mono ?_
    rintro e w' ⟨v, rfl, ⟨b, rfl, hlt⟩, hb⟩
    exact ⟨_, rfl, .inr ⟨_, _, rfl⟩, fun w2 hb2 => known16 b w2, hb⟩
  · rw [h]; refine (build17 a0 a1 a2 a3 a4 w h0 h).mono ?_
    rintro e w' ⟨v, rfl, ⟨b, rfl, hlt⟩, hb⟩
    exact ⟨_, rfl, .inr ⟨_, _, rfl⟩, fun w2 hb2 => known17 b w2, hb⟩
  · rw [h]; refine (build18 a0 a1 a2 a3 a4 w h0 h).mono ?_
    rintro e w' ⟨v, rfl, ⟨b, y, rfl, hlt, hc⟩, hb⟩
    exact ⟨_, rfl, .inr ⟨_, _, rfl⟩, fun w2 hb2 => known18 b y w2 (by rw [hb2.cell (p := ⟨b, 0, none⟩) hlt]; exact hc), hb⟩
  · rw [h]; refine (build19 a0 a1 a2 a3 a4 w h0 h).mono ?_
    rintro e w' ⟨v, rfl, ⟨b, y, rfl, hlt, hc⟩, hb⟩
    exact ⟨_, rfl, .inr ⟨_, _, rfl⟩, fun w2 hb2 => known19 b y w2 (by rw [hb2.cell (p := ⟨b, 0, none⟩) hlt]; exact hc), hb⟩

theorem zzType (a0 : Int) (w : World) (h0 : 0 ≤ a0) : Calls Try.prog 12 #[.int .u8 a0] w fun e w' => e = .returned (.int .u8 (tyOf (a0 % 20))) ∧ w = w' := by
  rcases twenty h0 with h | h | h | h | h | h | h | h | h | h | h | h | h | h | h | h | h | h | h | h
  all_goals
    rw [h]
    go_enter Try.func12, Try.ntmps12
    go_wp2
    go_ret
    exact ⟨rfl, rfl⟩
end Go.Proofs.Ytfbmadlcjpaddaa
