/-
  Bytes of a text, and masks. No condition. (My own helper text, one copy a seat.)
-/
import Derived.WalkSmall
import Derived.Laws.BitsAllLaws
import Derived.Laws.BitsLemmas
import Derived.Lib.Strings
import Derived.Lib.IndexBytes
import Derived.Lib.Bytealg
import Derived.Lib.DecodeN
namespace Go.Proofs.Ytocnfapldcjilaa
open Go.RowKit
/-- The byte at a place. -/
def B (s : ByteArray) (k : Nat) : Nat := (s.get! k).toNat
theorem B_lt (s : ByteArray) (k : Nat) : B s k < 256 := (s.get! k).toNat_lt
theorem B_at (s : ByteArray) (k : Nat) (h : k < s.size) : (s[k]'h).toNat = B s k := by
  unfold B
  have e : s.get! k = s[k]'h := by
    simp [ByteArray.get!, getElem!_pos, h]
    rfl
  rw [e]
/-! ### Masks -/
theorem and_hi (b k : Nat) (hk : k ≤ 8) (h : b < 256) : b &&& (256 - 2 ^ k) = b / 2 ^ k * 2 ^ k := by
  have hp : 2 ^ k * 2 ^ (8 - k) = 256 := by rw [← Nat.pow_add, show k + (8 - k) = 8 by omega]
  have e0 : 256 - 2 ^ k = (2 ^ (8 - k) - 1) * 2 ^ k := by rw [Nat.sub_mul, Nat.mul_comm, hp, Nat.one_mul]
  have a1 : (b &&& (256 - 2 ^ k)) % 2 ^ k = 0 := by rw [Nat.and_mod_two_pow, e0, Nat.mul_mod_left, Nat.and_zero]
  have a2 : (b &&& (256 - 2 ^ k)) / 2 ^ k = b / 2 ^ k := by
    rw [Nat.and_div_two_pow, e0, Nat.mul_div_cancel _ (Nat.two_pow_pos k), Nat.and_two_pow_sub_one_eq_mod]
    refine Nat.mod_eq_of_lt (Nat.div_lt_of_lt_mul ?_)
    rw [hp]; exact h
  have := Nat.div_add_mod (b &&& (256 - 2 ^ k)) (2 ^ k)
  rw [a1, a2] at this
  rw [← this, Nat.mul_comm]; rfl
theorem m_hi (b k M : Nat) (hM : 256 - 2 ^ k = M) (hk : k ≤ 8) (h : b < 256) (hM2 : M < 256) : bits .and .u8 (b : Int) (M : Int) = ((b / 2 ^ k * 2 ^ k : Nat) : Int) := by
  have := u8_and_nat b M h hM2
  rwa [← hM, and_hi b k hk h, hM] at this
theorem m_lo (b k M : Nat) (hM : 2 ^ k - 1 = M) (h : b < 256) (hM2 : M < 256) : bits .and .u8 (b : Int) (M : Int) = ((b % 2 ^ k : Nat) : Int) := by
  have := u8_and_nat b M h hM2
  rwa [← hM, Nat.and_two_pow_sub_one_eq_mod, hM] at this
theorem ofInt_i32 (a : Nat) (ha : a < 2147483648) : (BitVec.ofInt 32 (a : Int)).toNat = a := by
  rw [BitVec.ofInt_natCast, BitVec.toNat_ofNat]; exact Nat.mod_eq_of_lt (by omega)
theorem i32_or_nat (a b : Nat) (ha : a < 2147483648) (hb : b < 2147483648) : bits .or .i32 (a : Int) (b : Int) = ((a ||| b : Nat) : Int) := by
  have hx : a ||| b < 2 ^ 31 := Nat.or_lt_two_pow (by omega) (by omega)
  show IntKind.i32.wrap ((BitVec.ofInt 32 (a : Int) ||| BitVec.ofInt 32 (b : Int)).toNat : Int) = _
  rw [BitVec.toNat_or, ofInt_i32 a ha, ofInt_i32 b hb, IntKind.wrap_i32]
  omega
theorem i32_and_nat (a b : Nat) (ha : a < 2147483648) (hb : b < 2147483648) : bits .and .i32 (a : Int) (b : Int) = ((a &&& b : Nat) : Int) := by
  have hx : a &&& b < 2 ^ 31 := Nat.and_lt_two_pow _ (by omega)
  show IntKind.i32.wrap ((BitVec.ofInt 32 (a : Int) &&& BitVec.ofInt 32 (b : Int)).toNat : Int) = _
  rw [BitVec.toNat_and, ofInt_i32 a ha, ofInt_i32 b hb, IntKind.wrap_i32]
  omega
theorem m_lo32 (b k M : Nat) (hM : 2 ^ k - 1 = M) (h : b < 2147483648) (hM2 : M < 2147483648) : bits .and .i32 (b : Int) (M : Int) = ((b % 2 ^ k : Nat) : Int) := by
  have := i32_and_nat b M h hM2
  rwa [← hM, Nat.and_two_pow_sub_one_eq_mod, hM] at this
theorem or_add (x y k : Nat) (h : y < 2 ^ k) : x * 2 ^ k ||| y = x * 2 ^ k + y := by
  have a : (x * 2 ^ k ||| y) % 2 ^ k = y := by rw [Nat.or_mod_two_pow, Nat.mul_mod_left, Nat.zero_or, Nat.mod_eq_of_lt h]
  have b : (x * 2 ^ k ||| y) / 2 ^ k = x := by rw [Nat.or_div_two_pow, Nat.mul_div_cancel _ (Nat.two_pow_pos k), Nat.div_eq_of_lt h, Nat.or_zero]
  have := Nat.div_add_mod (x * 2 ^ k ||| y) (2 ^ k)
  rw [a, b] at this
  rw [← this, Nat.mul_comm]
theorem o_add (x y k : Nat) (h : y < 2 ^ k) (hs : x * 2 ^ k + 2 ^ k ≤ 2147483648) : bits .or .i32 ((x * 2 ^ k : Nat) : Int) (y : Int) = ((x * 2 ^ k + y : Nat) : Int) := by
  rw [i32_or_nat _ _ (by omega) (by omega), or_add x y k h]

def iOf : Value → Int | .int _ q => q | _ => 0
theorem tl (x : ByteArray) : x.toList = x.data.toList := by rw [ByteArray.toList_eq]
theorem len_tl (x : ByteArray) : x.data.toList.length = x.size := rfl
theorem ba_ext {a b : ByteArray} (h : a.data.toList = b.data.toList) : a = b := ByteArray.ext (Array.toList_inj.1 h)
theorem B_list (s : ByteArray) (k : Nat) (h : k < s.data.toList.length) : (s.data.toList[k]).toNat = B s k := B_at s k h
theorem get_default (s : ByteArray) (k : Nat) (h : ¬ k < s.size) : s.get! k = default := by
  cases s with
  | mk d => show d[k]! = default; exact getElem!_neg d k h
theorem B_from (s : ByteArray) (i k : Nat) (h : i ≤ s.size) : B (s.extract i s.size) k = B s (i + k) := by
  have hs : (s.extract i s.size).size = s.size - i := by rw [← len_tl, Lib.extract_to_end, List.length_drop, len_tl]
  by_cases hk : k < s.size - i
  · rw [← B_list _ k (by rw [len_tl, hs]; exact hk), ← B_list s (i + k) (by rw [len_tl]; omega)]
    congr 1
    simp only [Lib.extract_to_end, List.getElem_drop]
  · unfold B
    rw [get_default _ k (by rw [hs]; exact hk), get_default s (i + k) (by omega)]
theorem size_from (s : ByteArray) (a : Nat) (h : a ≤ s.size) : (s.extract a s.size).size = s.size - a := by
  rw [← len_tl, Lib.extract_to_end, List.length_drop, len_tl]
theorem size_to (s : ByteArray) (b : Nat) (h : b ≤ s.size) : (s.extract 0 b).size = b := by
  rw [← len_tl, Lib.extract_data]; simp; omega
theorem size_mid (s : ByteArray) (a b : Nat) (h : a ≤ b) (h2 : b ≤ s.size) : (s.extract a b).size = b - a := by
  rw [← len_tl, Lib.extract_data]; simp; omega
/-- The model's decoding at a place, by bytes. -/
theorem decode_B (s : ByteArray) (i : Nat) : Utf8.decode s i = Lib.decodeN (s.size - i) (B s i) (B s (i + 1)) (B s (i + 2)) (B s (i + 3)) := Lib.decode_at s i
theorem decode_from (s : ByteArray) (i : Nat) (h : i ≤ s.size) : Utf8.decode (s.extract i s.size) 0 = Utf8.decode s i := by
  rw [decode_B, decode_B, size_from s i h, B_from s i _ h, B_from s i _ h, B_from s i _ h, B_from s i _ h]
  rfl
theorem decodeN_high {n b0 b1 b2 b3 : Nat} (hn : 1 ≤ n) (h : 128 ≤ b0) : 128 ≤ (Lib.decodeN n b0 b1 b2 b3).1 ∧ 1 ≤ (Lib.decodeN n b0 b1 b2 b3).2 ∧
    (Lib.decodeN n b0 b1 b2 b3).2 ≤ n ∧ (2 ≤ (Lib.decodeN n b0 b1 b2 b3).2 → 128 ≤ b1) ∧ (3 ≤ (Lib.decodeN n b0 b1 b2 b3).2 → 128 ≤ b2) ∧ (4 ≤ (Lib.decodeN n b0 b1 b2 b3).2 → 128 ≤ b3) ∧ (Lib.decodeN n b0 b1 b2 b3).2 ≤ 4 ∧ (Lib.decodeN n b0 b1 b2 b3).1 ≤ 1114111 := by
  unfold Lib.decodeN
  repeat' split
  all_goals (simp only; omega)
theorem decodeN_one {n b0 b1 b2 b3 : Nat} (h : 128 ≤ b0) (h1 : (Lib.decodeN n b0 b1 b2 b3).2 = 1) : (Lib.decodeN n b0 b1 b2 b3).1 = 65533 := by
  unfold Lib.decodeN at h1 ⊢
  rw [if_neg (by omega)] at h1 ⊢
  split at h1
  · rename_i c
    rw [if_pos c]
    split at h1
    · cases h1
    · rename_i c2; rw [if_neg c2]
  · rename_i c
    rw [if_neg c]
    split at h1
    · rename_i c
      rw [if_pos c]
      split at h1
      · cases h1
      · rename_i c2; rw [if_neg c2]
    · rename_i c
      rw [if_neg c]
      split at h1
      · rename_i c
        rw [if_pos c]
        split at h1
        · cases h1
        · rename_i c2; rw [if_neg c2]
      · rename_i c; rw [if_neg c]
theorem decodeN_low {n b0 b1 b2 b3 : Nat} (h : b0 < 128) : Lib.decodeN n b0 b1 b2 b3 = (b0, 1) := by unfold Lib.decodeN; rw [if_pos h]

/-! ### Is the text valid? -/
def vf (s : ByteArray) : Nat → Nat → Bool
  | 0, _ => true
  | b + 1, pos => if pos < s.size then (if Utf8.decode s pos = (65533, 1) then false else vf s b (pos + (Utf8.decode s pos).2)) else true
def validB (s : ByteArray) : Bool := vf s s.size 0
theorem vf_end (s : ByteArray) (b pos : Nat) (h : ¬ pos < s.size) : vf s b pos = true := by
  cases b with
  | zero => rfl
  | succ b => simp [vf, h]
/-- What is left of the text decides. -/
def VF (s : ByteArray) (pos : Nat) (v : Bool) : Prop := ∃ b, vf s b pos = v ∧ s.size ≤ pos + b
theorem VF.start (s : ByteArray) : VF s 0 (validB s) := ⟨s.size, rfl, by omega⟩
theorem VF.fin {s : ByteArray} {pos : Nat} {v : Bool} (h : VF s pos v) (hp : ¬ pos < s.size) : v = true := by
  obtain ⟨b, h, _⟩ := h; rw [vf_end s b pos hp] at h; exact h.symm
theorem VF.bad {s : ByteArray} {pos : Nat} {v : Bool} (h : VF s pos v) (hp : pos < s.size) (hd : Utf8.decode s pos = (65533, 1)) : v = false := by
  obtain ⟨b, h, hb⟩ := h
  cases b with
  | zero => omega
  | succ b => unfold vf at h; rw [if_pos hp, if_pos hd] at h; exact h.symm
theorem VF.go {s : ByteArray} {pos c k : Nat} {v : Bool} (h : VF s pos v) (hp : pos < s.size) (hd : Utf8.decode s pos = (c, k)) (hk : 1 ≤ k) (hne : ¬ (c = 65533 ∧ k = 1)) : VF s (pos + k) v := by
  obtain ⟨b, h, hb⟩ := h
  cases b with
  | zero => omega
  | succ b =>
    unfold vf at h
    rw [if_pos hp, if_neg (fun q => hne (by rw [hd] at q; exact ⟨congrArg Prod.fst q, congrArg Prod.snd q⟩)), hd] at h
    exact ⟨b, h, by omega⟩
end Go.Proofs.Ytocnfapldcjilaa
