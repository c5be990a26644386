/-
  Contracts of what FnLessIsStrictWeakOrder calls. No condition.
-/
import Derived.Test.YtnflgpcbdjkpfaaOwn
import Derived.Test.YtnflgpcbdjkpfaaProg
import Derived.WalkSmall
import Derived.Lib.Bytealg
import Derived.Lib.Strings
namespace Go.Proofs.Ytnflgpcbdjkpfaa
open Go.ChangeShapes Go.WideShapes Go.ChangeAt Go.RowKit
set_option linter.unusedVariables false


set_option maxHeartbeats 1000000 in
theorem idx20 (s : ByteArray) (c : Int) (w : World) :
    Calls Try.prog 20 #[.string s, .int .u8 c] w fun e w' => e = .returned (.int .i64 (Lib.indexByte s.data.toList c.toNat.toUInt8)) ∧ w = w' := by
  go_enter Try.func20, Try.ntmps20
  go_wp2
  rw [run_callFunc_extern (e := Extern.BytealgIndexByte.indexByte) Try.func21 (by kernel_rfl) (by kernel_rfl) (by kernel_rfl) (by kernel_rfl), Lib.run_indexByteString]
  simp only [Result.andThen]
  rw [Oper.upon_value]
  go_wp2
  go_ret
  exact ⟨rfl, rfl⟩
set_option maxHeartbeats 1000000 in
theorem idx19 (s : ByteArray) (c : Int) (w : World) :
    Calls Try.prog 19 #[.string s, .int .u8 c] w fun e w' => e = .returned (.int .i64 (Lib.indexByte s.data.toList c.toNat.toUInt8)) ∧ w = w' := by
  go_enter Try.func19, Try.ntmps19
  go_wp2_with (go_at_call 20; (with_reducible refine (idx20 s c w).mono ?_); rintro _ _ ⟨rfl, rfl⟩)
  go_ret
  exact ⟨rfl, rfl⟩

/-- Less of two keys, of the star's place (or -1) and the length of each. -/
def lt (i n j m : Int) : Bool :=
  if (if 0 ≤ i then i else n) > (if 0 ≤ j then j else m) then true
  else if (if 0 ≤ j then j else m) > (if 0 ≤ i then i else n) then false
  else if i < 0 then false else if j < 0 then true else if n > m then true else false
theorem lt_irrefl (i n : Int) : lt i n i n = false := by
  unfold lt
  repeat' split
  all_goals first | rfl | (exfalso; omega)
theorem lt_asymm (i n j m : Int) (h : lt i n j m = true) : lt j m i n = false := by
  cases e : lt j m i n
  · rfl
  · exfalso
    revert h e; unfold lt
    repeat' split
    all_goals first | (intro h e; cases h; done) | (intro h e; cases e; done) | (intro _ _; omega)
def ix (s : ByteArray) : Int := Lib.indexByte s.data.toList (42 : Int).toNat.toUInt8
theorem ix_ge (s : ByteArray) : -1 ≤ ix s := Lib.indexByte_ge _ _
set_option maxHeartbeats 4000000 in
theorem less18 (K p q : Nat) (x y : ByteArray) (w : World) (hp : p < 3) (hq : q < 3) (hx : w.cell? ⟨K, p * 10, none⟩ = some (.string x)) (hy : w.cell? ⟨K, q * 10, none⟩ = some (.string y)) (sx : x.size ≤ 1048576) (sy : y.size ≤ 1048576) :
    Calls Try.prog 18 #[.slice (some ⟨K, 0, none⟩) 3 3, .int .i64 p, .int .i64 q] w fun e w' => e = .returned (.bool (lt (ix x) x.size (ix y) y.size)) ∧ w = w' := by
  have X := idx19 x 42 w
  have Y := idx19 y 42 w
  have gx := ix_ge x
  have gy := ix_ge y
  change Calls Try.prog 19 #[.string x, .int .u8 42] w (fun e w' => e = .returned (.int .i64 (ix x)) ∧ w = w') at X
  change Calls Try.prog 19 #[.string y, .int .u8 42] w (fun e w' => e = .returned (.int .i64 (ix y)) ∧ w = w') at Y
  generalize ix x = a at *
  generalize ix y = b at *
  have HX := Lib.hid X
  have HY := Lib.hid Y
  clear X Y
  go_enter Try.func18, Try.ntmps18
  go_wp2_with (first
    | (go_at_call 19; (with_reducible refine HX.out.mono ?_); rintro _ _ ⟨rfl, rfl⟩)
    | (go_at_call 19; (with_reducible refine HY.out.mono ?_); rintro _ _ ⟨rfl, rfl⟩))
  all_goals
    go_ret
    refine ⟨?_, rfl⟩
    show Ending.returned (.bool _) = _
    congr 2
    unfold lt
    repeat' split
    all_goals first | rfl | (exfalso; omega)

def bs (i n : Int) : Int := if 0 ≤ i then i else n
theorem lt_iff (i n j m : Int) : lt i n j m = true ↔ (bs i n > bs j m ∨ (bs i n = bs j m ∧ 0 ≤ i ∧ (j < 0 ∨ n > m))) := by
  unfold lt
  change (if bs i n > bs j m then true else if bs j m > bs i n then false else if i < 0 then false else if j < 0 then true else if n > m then true else false) = true ↔ _
  generalize bs i n = x
  generalize bs j m = y
  repeat' split
  all_goals simp
  all_goals omega
theorem lt_trans (i n j m k l : Int) (h : lt i n j m = true) (g : lt j m k l = true) : lt i n k l = true := by
  rw [lt_iff] at *
  omega
theorem lt_inc (i n j m k l : Int) (h1 : lt i n j m = false) (h2 : lt j m i n = false) (g1 : lt j m k l = false) (g2 : lt k l j m = false) : lt i n k l = false := by
  rw [← Bool.not_eq_true, lt_iff] at *
  omega
theorem less13 (K p q : Nat) (x y : ByteArray) (w : World) (hp : p < 3) (hq : q < 3) (hx : w.cell? ⟨K, p * 10, none⟩ = some (.string x)) (hy : w.cell? ⟨K, q * 10, none⟩ = some (.string y)) (sx : x.size ≤ 1048576) (sy : y.size ≤ 1048576) :
    Calls Try.prog 13 #[.slice (some ⟨K, 0, none⟩) 3 3, .int .i64 p, .int .i64 q] w fun e w' => e = .returned (.bool (lt (ix x) x.size (ix y) y.size)) ∧ w = w' := by
  have H := Lib.hid (less18 K p q x y w hp hq hx hy sx sy)
  go_enter Try.func13, Try.ntmps13
  go_wp2_with (go_at_call 18; (with_reducible refine H.out.mono ?_); rintro _ _ ⟨rfl, rfl⟩)
  go_ret
  exact ⟨rfl, rfl⟩
end Go.Proofs.Ytnflgpcbdjkpfaa
