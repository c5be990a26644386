/-
  The percent-escaped text, as a list of bytes. No condition.
-/
import Derived.Test.YtocnfapldcjilaaDoorMsk
namespace Go.Proofs.YtocnfapldcjilaaDoor
set_option linter.unusedVariables false

def blank (b : UInt8) : Bool := decide (b.toNat ≤ 32) && b != 9 && b != 10 && b != 13
def hexB (c : UInt8) : Bool := (decide (48 ≤ c.toNat) && decide (c.toNat ≤ 57)) || (decide (97 ≤ c.toNat) && decide (c.toNat ≤ 102)) || (decide (65 ≤ c.toNat) && decide (c.toNat ≤ 70))
def hexd (v : Nat) : UInt8 := if v < 10 then (48 + v).toUInt8 else (55 + v).toUInt8
/-- Where the trailing run begins, of the first k bytes. -/
def tsAt (l : List UInt8) : Nat → Nat
  | 0 => 0
  | k + 1 => if blank (l.getD k 0) then tsAt l k else k + 1
theorem tsAt_le (l : List UInt8) (k : Nat) : tsAt l k ≤ k := by
  induction k with
  | zero => exact Nat.le_refl _
  | succ k ih => unfold tsAt; split <;> omega
theorem tsAt_blank (l : List UInt8) (k p : Nat) (h1 : tsAt l k ≤ p) (h2 : p < k) : blank (l.getD p 0) = true := by
  induction k with
  | zero => omega
  | succ k ih =>
    unfold tsAt at h1
    split at h1
    · by_cases e : p = k
      · subst e; assumption
      · exact ih h1 (by omega)
    · omega
theorem tsAt_yes {l : List UInt8} {k : Nat} (h : blank (l.getD k 0) = true) : tsAt l (k + 1) = tsAt l k := by show (if _ then _ else _) = _; rw [if_pos h]
theorem tsAt_no {l : List UInt8} {k : Nat} (h : blank (l.getD k 0) = false) : tsAt l (k + 1) = k + 1 := by show (if _ then _ else _) = _; rw [if_neg (by rw [h]; decide)]
/-- Is the byte at p written as %XY? -/
def escB (l : List UInt8) (p : Nat) : Bool :=
  l.getD p 0 == 9 || l.getD p 0 == 10 || l.getD p 0 == 13 || l.getD p 0 == 35 || decide (tsAt l l.length ≤ p) ||
  (l.getD p 0 == 37 && decide (p + 2 < l.length) && hexB (l.getD (p + 1) 0) && hexB (l.getD (p + 2) 0))
def enc (l : List UInt8) (p : Nat) : List UInt8 := if escB l p then [37, hexd ((l.getD p 0).toNat / 16), hexd ((l.getD p 0).toNat % 16)] else [l.getD p 0]
/-- What the first k bytes become. -/
def E (l : List UInt8) : Nat → List UInt8
  | 0 => []
  | k + 1 => E l k ++ enc l k
theorem enc_len (l : List UInt8) (p : Nat) : (enc l p).length ≤ 3 := by unfold enc; split <;> simp
theorem E_len (l : List UInt8) (k : Nat) : (E l k).length ≤ 3 * k := by
  induction k with
  | zero => simp [E]
  | succ k ih => have := enc_len l k; simp [E]; omega
theorem E_yes {l : List UInt8} {k : Nat} (h : escB l k = true) : E l (k + 1) = E l k ++ [37] ++ [hexd ((l.getD k 0).toNat / 16)] ++ [hexd ((l.getD k 0).toNat % 16)] := by
  show E l k ++ enc l k = _; unfold enc; rw [if_pos h]; simp
theorem E_no {l : List UInt8} {k : Nat} (h : escB l k = false) : E l (k + 1) = E l k ++ [l.getD k 0] := by
  show E l k ++ enc l k = _; unfold enc; rw [if_neg (by rw [h]; decide)]
def mid (l : List UInt8) (a b : Nat) : List UInt8 := (l.drop a).take (b - a)
theorem mid_self (l : List UInt8) (a : Nat) : mid l a a = [] := by unfold mid; rw [Nat.sub_self, List.take_zero]
theorem mid_succ {l : List UInt8} {a b : Nat} (h : a ≤ b) (hb : b < l.length) : mid l a (b + 1) = mid l a b ++ [l.getD b 0] := by
  unfold mid
  rw [show b + 1 - a = (b - a) + 1 by omega, List.take_succ_eq_append_getElem (by rw [List.length_drop]; omega)]
  congr 1
  rw [List.getElem_drop, List.getD_eq_getElem?_getD, List.getElem?_eq_getElem hb]
  simp only [show a + (b - a) = b by omega, Option.getD_some]
/-- What has been written, and what waits. -/
def Run (l : List UInt8) (rs i : Nat) : Prop := rs ≤ i ∧ E l i = E l rs ++ mid l rs i
theorem Run.start (l : List UInt8) : Run l 0 0 := ⟨Nat.le_refl _, by rw [mid_self]; simp⟩
theorem Run.same (l : List UInt8) (i : Nat) : Run l i i := ⟨Nat.le_refl _, by rw [mid_self]; simp⟩
theorem Run.one {l : List UInt8} {rs i : Nat} (h : Run l rs i) (hi : i < l.length) (hn : escB l i = false) : Run l rs (i + 1) :=
  ⟨by have := h.1; omega, by rw [E_no hn, h.2, mid_succ h.1 hi, List.append_assoc]⟩
theorem Run.more {l : List UInt8} {rs i : Nat} (h : Run l rs i) : ∀ k : Nat, i + k ≤ l.length → (∀ j, i ≤ j → j < i + k → escB l j = false) → Run l rs (i + k)
  | 0, _, _ => h
  | k + 1, hk, hn => (Run.more h k (by omega) (fun j a b => hn j a (by omega))).one (by omega) (hn (i + k) (by omega) (by omega))
theorem esc_high {l : List UInt8} {j : Nat} (hj : j < l.length) (h : 128 ≤ (l.getD j 0).toNat) : escB l j = false := by
  have hb : blank (l.getD j 0) = false := by unfold blank; rw [decide_eq_false (by omega)]; rfl
  have ht : ¬ tsAt l l.length ≤ j := fun q => by have := tsAt_blank l l.length j q hj; rw [hb] at this; cases this
  have ne : ∀ c : UInt8, c.toNat < 128 → (l.getD j 0 == c) = false := fun c hc => by
    simp only [beq_eq_false_iff_ne]; intro e; rw [e] at h; omega
  unfold escB
  rw [ne 9 (by decide), ne 10 (by decide), ne 13 (by decide), ne 35 (by decide), ne 37 (by decide), decide_eq_false ht]; rfl
theorem getD_B (s : ByteArray) (k : Nat) : (s.data.toList.getD k 0).toNat = B s k := by
  by_cases h : k < s.data.toList.length
  · rw [List.getD_eq_getElem?_getD, List.getElem?_eq_getElem h]; exact B_list s k h
  · rw [List.getD_eq_getElem?_getD, List.getElem?_eq_none (by omega)]
    unfold B; rw [get_default s k (by rw [len_tl] at h; exact h)]; rfl
/-- The whole. -/
def head (m : List UInt8) : List UInt8 := [100, 97, 116, 97, 58] ++ m ++ [44]
def url (m l : List UInt8) : ByteArray := ⟨(head m ++ E l l.length).toArray⟩

/-! ### The model's test of a step -/
open Go.Lib in
theorem step2 {n a b c d : Nat} (h : 194 ≤ a ∧ a ≤ 223) : (n < 2 ∨ b / 64 ≠ 2 → decodeN n a b c d = (65533, 1)) ∧ (2 ≤ n → b / 64 = 2 → ∃ r, decodeN n a b c d = (r, 2)) := by
  unfold decodeN
  constructor
  · intro q
    rw [if_neg (by omega), if_neg (by omega), if_neg (by omega), if_neg (by omega)]
  · intro q1 q2
    rw [if_neg (by omega), if_pos (by omega), if_pos (by omega)]
    exact ⟨_, rfl⟩
open Go.Lib in
theorem step3 {n a b c d : Nat} (h : 224 ≤ a ∧ a ≤ 239) : (n < 3 ∨ b / 64 ≠ 2 ∨ c / 64 ≠ 2 → decodeN n a b c d = (65533, 1)) ∧ (3 ≤ n → b / 64 = 2 → c / 64 = 2 →
    ((a % 16 * 4096 + b % 64 * 64 + c % 64 < 2048 ∨ (55296 ≤ a % 16 * 4096 + b % 64 * 64 + c % 64 ∧ a % 16 * 4096 + b % 64 * 64 + c % 64 ≤ 57343) → decodeN n a b c d = (65533, 1)) ∧
    (2048 ≤ a % 16 * 4096 + b % 64 * 64 + c % 64 → ¬ (55296 ≤ a % 16 * 4096 + b % 64 * 64 + c % 64 ∧ a % 16 * 4096 + b % 64 * 64 + c % 64 ≤ 57343) → ∃ r, decodeN n a b c d = (r, 3)))) := by
  unfold decodeN
  constructor
  · intro q
    rw [if_neg (by omega), if_neg (by omega), if_neg (by omega), if_neg (by omega)]
  · intro q1 q2 q3
    constructor
    · intro q
      rw [if_neg (by omega), if_neg (by omega), if_pos (by omega), if_neg (by omega)]
    · intro q q'
      rw [if_neg (by omega), if_neg (by omega), if_pos (by omega), if_pos (by omega)]
      exact ⟨_, rfl⟩
open Go.Lib in
theorem step4 {n a b c d : Nat} (h : 240 ≤ a ∧ a ≤ 244) : (n < 4 ∨ b / 64 ≠ 2 ∨ c / 64 ≠ 2 ∨ d / 64 ≠ 2 → decodeN n a b c d = (65533, 1)) ∧ (4 ≤ n → b / 64 = 2 → c / 64 = 2 → d / 64 = 2 →
    ((a % 8 * 262144 + b % 64 * 4096 + c % 64 * 64 + d % 64 < 65536 ∨ 1114111 < a % 8 * 262144 + b % 64 * 4096 + c % 64 * 64 + d % 64 → decodeN n a b c d = (65533, 1)) ∧
    (65536 ≤ a % 8 * 262144 + b % 64 * 4096 + c % 64 * 64 + d % 64 → a % 8 * 262144 + b % 64 * 4096 + c % 64 * 64 + d % 64 ≤ 1114111 → ∃ r, decodeN n a b c d = (r, 4)))) := by
  unfold decodeN
  constructor
  · intro q
    rw [if_neg (by omega), if_neg (by omega), if_neg (by omega), if_neg (by omega)]
  · intro q1 q2 q3 q4
    constructor
    · intro q
      rw [if_neg (by omega), if_neg (by omega), if_neg (by omega), if_pos (by omega), if_neg (by omega)]
    · intro q q'
      rw [if_neg (by omega), if_neg (by omega), if_neg (by omega), if_pos (by omega), if_pos (by omega)]
      exact ⟨_, rfl⟩
open Go.Lib in
theorem stepBad {n a b c d : Nat} (h0 : 128 ≤ a) (h1 : ¬ (194 ≤ a ∧ a ≤ 223)) (h2 : ¬ (224 ≤ a ∧ a ≤ 239)) (h3 : ¬ (240 ≤ a ∧ a ≤ 244)) (hb : b < 256) (hc : c < 256) (hd : d < 256) (ha : a < 256) : decodeN n a b c d = (65533, 1) := by
  unfold decodeN
  rw [if_neg (by omega)]
  split
  · rw [if_neg (by omega)]
  · rw [if_neg (by omega)]
    split
    · rw [if_neg (by omega)]
    · rfl
end Go.Proofs.YtocnfapldcjilaaDoor
