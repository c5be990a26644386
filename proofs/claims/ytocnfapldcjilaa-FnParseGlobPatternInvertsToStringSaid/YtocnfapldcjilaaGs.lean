/-
  Contracts of ParseGlobPattern's law's small functions. No condition.
-/
import Derived.Test.YtocnfapldcjilaaStr
import Derived.Test.YtocnfapldcjilaaMsk
import Derived.Test.YtocnfapldcjilaaProg
import Derived.WalkSmall
import Derived.BigQuiet
namespace Go.Proofs.Ytocnfapldcjilaa
open Go.ChangeShapes Go.WideShapes Go.ChangeAt Go.RowKit
set_option linter.unusedVariables false

/-- The sizes of the first k. -/
def sz (zs : List ByteArray) : Nat → Nat
  | 0 => 0
  | k + 1 => sz zs k + (zs.getD k ByteArray.empty).size
theorem min9 (a c : Option Addr) (len cap len2 cap2 : Nat) (w : World) (hl : len ≤ 9223372036854775807) (hl2 : len2 ≤ 9223372036854775807) :
    Calls Try.prog 9 #[.slice a len cap, .slice c len2 cap2] w fun e w' => e = .returned (.int .i64 ((if len2 < len then len2 else len : Nat) : Int)) ∧ w' = w := by
  by_cases h : len2 < len
  · rw [if_pos h]
    go_enter Try.func9, Try.ntmps9
    go_wp2
    go_ret
    exact ⟨rfl, rfl⟩
  · rw [if_neg h]
    go_enter Try.func9, Try.ntmps9
    go_wp2
    go_ret
    exact ⟨rfl, rfl⟩
def isSl (b : Nat) : Bool := decide (b = 47 ∨ b = 92)
theorem slash18 (b : Nat) (w : World) :
    Calls Try.prog 18 #[.int .u8 b] w fun e w' => e = .returned (.bool (isSl b)) ∧ w' = w := by
  unfold isSl
  by_cases h : b = 47
  · subst h
    go_enter Try.func18, Try.ntmps18
    go_wp2
    go_ret
    exact ⟨rfl, rfl⟩
  · by_cases h2 : b = 92
    · subst h2
      go_enter Try.func18, Try.ntmps18
      go_wp2
      go_ret
      exact ⟨rfl, rfl⟩
    · have c1 : ((b : Int) == 47) = false := by simp; omega
      have c2 : ((b : Int) == 92) = false := by simp; omega
      rw [decide_eq_false (by omega)]
      clear h h2
      go_enter Try.func18, Try.ntmps18
      go_wp2
      go_ret
      exact ⟨rfl, rfl⟩
set_option maxHeartbeats 1000000 in
theorem zz5 (a c : Option Addr) (len cap len2 cap2 : Nat) (zs : List ByteArray) (w : World) (h : IsStrs w a len cap zs) (hl : len ≤ 9223372036854775807) (hl2 : len2 ≤ 9223372036854775807) :
    Calls Try.prog 5 #[.slice a len cap, .slice c len2 cap2] w fun e w' => (∃ v : Bool, e = .returned (.bool v)) ∧ w' = w := by
  have HH := Lib.hid h
  clear h
  by_cases q : len ≤ 1048576
  · go_enter Try.func5, Try.ntmps5
    go_wp2
    go_loopw [5, 6] (fun t i wr => w = wr ∧ ∃ k n : Nat, k ≤ len ∧ i = .int .i64 k ∧ t = .int .i64 n ∧ n ≤ 1048576) (fun _ i _ => len - (intOf i).toNat)
    case atStart => exact ⟨by trivial, 0, len, Nat.zero_le _, rfl, by go_num, by omega⟩
    case round =>
      obtain ⟨rfl, k, n, hk, rfl, rfl, hn⟩ := hrel
      by_cases hlt : k < len
      · obtain ⟨b, off, rfl, hb, hcell⟩ := HH.out.at (by omega)
        have hcur := hcell k hlt
        have hsm := HH.out.small k
        generalize zs.getD k ByteArray.empty = x at *
        clear hcell
        by_cases hx : x.size ≤ 1048576
        · by_cases hx2 : n + x.size ≤ 1048576
          · go_wp2
            refine ⟨⟨by trivial, k + 1, n + x.size, by omega, by go_num, by go_num, hx2⟩, by simp [intOf]; omega⟩
          · go_wp2
            go_ret
            exact ⟨⟨_, rfl⟩, rfl⟩
        · go_wp2
          go_ret
          exact ⟨⟨_, rfl⟩, rfl⟩
      · have : k = len := by omega
        subst this
        by_cases q2 : len2 ≤ 1048576
        · by_cases q3 : n + len2 ≤ 1048576
          · go_wp2
            go_ret
            exact ⟨⟨_, rfl⟩, rfl⟩
          · go_wp2
            go_ret
            exact ⟨⟨_, rfl⟩, rfl⟩
        · go_wp2
          go_ret
          exact ⟨⟨_, rfl⟩, rfl⟩
  · go_enter Try.func5, Try.ntmps5
    go_wp2
    go_ret
    exact ⟨⟨_, rfl⟩, rfl⟩
/-- What the byte measure says. -/
def Tot (zs : List ByteArray) (len len2 n : Nat) : Prop := n ≤ 1048577 ∧ (n ≤ 1048576 → sz zs len ≤ 1048576)
set_option maxHeartbeats 1000000 in
theorem bytes6 (a c : Option Addr) (len cap len2 cap2 : Nat) (zs : List ByteArray) (w : World) (h : IsStrs w a len cap zs) (hl : len ≤ 65536) (hl2 : len2 ≤ 65536) :
    Calls Try.prog 6 #[.slice a len cap, .slice c len2 cap2] w fun e w' => (∃ n : Nat, e = .returned (.int .i64 n) ∧ Tot zs len len2 n) ∧ w' = w := by
  have HH := Lib.hid h
  clear h
  by_cases q : len2 + 16 * len ≤ 1048576
  · go_enter Try.func6, Try.ntmps6
    go_wp2
    go_loopw [5, 6] (fun t i wr => w = wr ∧ ∃ k n : Nat, k ≤ len ∧ i = .int .i64 k ∧ t = .int .i64 n ∧ n ≤ 1048576 ∧ Hid (sz zs k ≤ n)) (fun _ i _ => len - (intOf i).toNat)
    case atStart => exact ⟨by trivial, 0, len2 + 16 * len, Nat.zero_le _, rfl, by go_num, by omega, Nat.zero_le _⟩
    case round =>
      obtain ⟨rfl, k, n, hk, rfl, rfl, hn, HS⟩ := hrel
      by_cases hlt : k < len
      · obtain ⟨b, off, rfl, hb, hcell⟩ := HH.out.at (by omega)
        have hcur := hcell k hlt
        have hsm := HH.out.small k
        have HS2 : Hid (sz zs (k + 1) ≤ n + (zs.getD k ByteArray.empty).size) := Nat.add_le_add_right HS.out _
        generalize zs.getD k ByteArray.empty = x at *
        clear hcell HS
        by_cases hx : x.size ≤ 1048576
        · by_cases hx2 : n + x.size ≤ 1048576
          · go_wp2
            refine ⟨⟨by trivial, k + 1, n + x.size, by omega, by go_num, by go_num, hx2, HS2⟩, by simp [intOf]; omega⟩
          · go_wp2
            go_ret
            exact ⟨⟨1048577, rfl, by omega, fun h => by omega⟩, rfl⟩
        · go_wp2
          go_ret
          exact ⟨⟨1048577, rfl, by omega, fun h => by omega⟩, rfl⟩
      · have : k = len := by omega
        subst this
        go_wp2
        go_ret
        exact ⟨⟨n, rfl, by omega, fun _ => Nat.le_trans HS.out hn⟩, rfl⟩
  · go_enter Try.func6, Try.ntmps6
    go_wp2
    go_ret
    exact ⟨⟨1048577, rfl, by omega, fun h => by omega⟩, rfl⟩
end Go.Proofs.Ytocnfapldcjilaa
