/-
  The contract of DecodeWTF8Rune. No condition.
-/
import Derived.Test.YtihcflebpgefbaaOwn
import Derived.Test.YtihcflebpgefbaaProg
import Derived.WalkSmall
import Derived.Laws.BitsAllLaws
import Derived.Laws.BitsLemmas
namespace Go.Proofs.Ytihcflebpgefbaa
open Go.ChangeShapes Go.WideShapes Go.ChangeAt Go.RowKit
set_option linter.unusedVariables false

/-- The byte at a place. -/
def B (s : ByteArray) (k : Nat) : Nat := (s.get! k).toNat
theorem B_lt (s : ByteArray) (k : Nat) : B s k < 256 := (s.get! k).toNat_lt
theorem B_at (s : ByteArray) (k : Nat) (h : k < s.size) : (s[k]'h).toNat = B s k := by
  unfold B
  have e : s.get! k = s[k]'h := by
    simp [ByteArray.get!, getElem!_pos, h]
    rfl
  rw [e]
/-! ### Masks -/
theorem and_hi (b k : Nat) (hk : k ≤ 8) (h : b < 256) : b &&& (256 - 2 ^ k) = b / 2 ^ k * 2 ^ k := by
  have hp : 2 ^ k * 2 ^ (8 - k) = 256 := by rw [← Nat.pow_add, show k + (8 - k) = 8 by omega]
  have e0 : 256 - 2 ^ k = (2 ^ (8 - k) - 1) * 2 ^ k := by rw [Nat.sub_mul, Nat.mul_comm, hp, Nat.one_mul]
  have a1 : (b &&& (256 - 2 ^ k)) % 2 ^ k = 0 := by rw [Nat.and_mod_two_pow, e0, Nat.mul_mod_left, Nat.and_zero]
  have a2 : (b &&& (256 - 2 ^ k)) / 2 ^ k = b / 2 ^ k := by
    rw [Nat.and_div_two_pow, e0, Nat.mul_div_cancel _ (Nat.two_pow_pos k), Nat.and_two_pow_sub_one_eq_mod]
    refine Nat.mod_eq_of_lt (Nat.div_lt_of_lt_mul ?_)
    rw [hp]; exact h
  have := Nat.div_add_mod (b &&& (256 - 2 ^ k)) (2 ^ k)
  rw [a1, a2] at this
  rw [← this, Nat.mul_comm]; rfl
theorem m_hi (b k M : Nat) (hM : 256 - 2 ^ k = M) (hk : k ≤ 8) (h : b < 256) (hM2 : M < 256) : bits .and .u8 (b : Int) (M : Int) = ((b / 2 ^ k * 2 ^ k : Nat) : Int) := by
  have := u8_and_nat b M h hM2
  rwa [← hM, and_hi b k hk h, hM] at this
theorem m_lo (b k M : Nat) (hM : 2 ^ k - 1 = M) (h : b < 256) (hM2 : M < 256) : bits .and .u8 (b : Int) (M : Int) = ((b % 2 ^ k : Nat) : Int) := by
  have := u8_and_nat b M h hM2
  rwa [← hM, Nat.and_two_pow_sub_one_eq_mod, hM] at this
theorem ofInt_i32 (a : Nat) (ha : a < 2147483648) : (BitVec.ofInt 32 (a : Int)).toNat = a := by
  rw [BitVec.ofInt_natCast, BitVec.toNat_ofNat]; exact Nat.mod_eq_of_lt (by omega)
theorem i32_or_nat (a b : Nat) (ha : a < 2147483648) (hb : b < 2147483648) : bits .or .i32 (a : Int) (b : Int) = ((a ||| b : Nat) : Int) := by
  have hx : a ||| b < 2 ^ 31 := Nat.or_lt_two_pow (by omega) (by omega)
  show IntKind.i32.wrap ((BitVec.ofInt 32 (a : Int) ||| BitVec.ofInt 32 (b : Int)).toNat : Int) = _
  rw [BitVec.toNat_or, ofInt_i32 a ha, ofInt_i32 b hb, IntKind.wrap_i32]
  omega
theorem or_add (x y k : Nat) (h : y < 2 ^ k) : x * 2 ^ k ||| y = x * 2 ^ k + y := by
  have a : (x * 2 ^ k ||| y) % 2 ^ k = y := by rw [Nat.or_mod_two_pow, Nat.mul_mod_left, Nat.zero_or, Nat.mod_eq_of_lt h]
  have b : (x * 2 ^ k ||| y) / 2 ^ k = x := by rw [Nat.or_div_two_pow, Nat.mul_div_cancel _ (Nat.two_pow_pos k), Nat.div_eq_of_lt h, Nat.or_zero]
  have := Nat.div_add_mod (x * 2 ^ k ||| y) (2 ^ k)
  rw [a, b] at this
  rw [← this, Nat.mul_comm]
theorem o_add (x y k : Nat) (h : y < 2 ^ k) (hs : x * 2 ^ k + 2 ^ k ≤ 2147483648) : bits .or .i32 ((x * 2 ^ k : Nat) : Int) (y : Int) = ((x * 2 ^ k + y : Nat) : Int) := by
  rw [i32_or_nat _ _ (by omega) (by omega), or_add x y k h]
/-- What the decoder gives. -/
def dcod (n a b c d : Nat) : Nat × Nat :=
  if n = 0 then (65533, 0) else if a < 128 then (a, 1)
  else if 192 ≤ a ∧ a < 224 then
    if n < 2 then (65533, 0) else if b / 64 = 2 ∧ 128 ≤ (a - 192) * 64 + b % 64 then ((a - 192) * 64 + b % 64, 2) else (65533, 1)
  else if 224 ≤ a ∧ a < 240 then
    if n < 3 then (65533, 0) else if b / 64 = 2 ∧ c / 64 = 2 ∧ 2048 ≤ (a - 224) * 4096 + b % 64 * 64 + c % 64 then ((a - 224) * 4096 + b % 64 * 64 + c % 64, 3) else (65533, 1)
  else if 240 ≤ a ∧ a < 248 then
    if n < 4 then (65533, 0) else if b / 64 = 2 ∧ c / 64 = 2 ∧ d / 64 = 2 ∧ 65536 ≤ (a - 240) * 262144 + b % 64 * 4096 + c % 64 * 64 + d % 64 ∧ (a - 240) * 262144 + b % 64 * 4096 + c % 64 * 64 + d % 64 ≤ 1114111 then ((a - 240) * 262144 + b % 64 * 4096 + c % 64 * 64 + d % 64, 4) else (65533, 1)
  else (65533, 1)
def Gives (r : Nat × Nat) (w : World) (e : Ending) (w' : World) : Prop := e = .returned (.tuple #[.int .i32 (r.1 : Int), .int .i64 (r.2 : Int)]) ∧ w = w'
set_option maxRecDepth 100000 in
set_option maxHeartbeats 8000000 in
theorem dec5 (s : ByteArray) (hs : s.size ≤ 4194304) (w : World) :
    Calls Try.prog 5 #[.string s] w (Gives (dcod s.size (B s 0) (B s 1) (B s 2) (B s 3)) w) := by
  by_cases h0 : s.size = 0
  · have : dcod s.size (B s 0) (B s 1) (B s 2) (B s 3) = (65533, 0) := by unfold dcod; rw [if_pos h0]
    rw [this]
    go_enter Try.func5, Try.ntmps5
    go_wp2
    go_ret2
    exact ⟨rfl, rfl⟩
  have e0 := B_at s 0 (by omega)
  have l0 := B_lt s 0
  generalize B s 0 = a at *
  by_cases ha : a < 128
  · have : dcod s.size a (B s 1) (B s 2) (B s 3) = (a, 1) := by unfold dcod; rw [if_neg h0, if_pos ha]
    rw [this]
    go_enter Try.func5, Try.ntmps5
    go_wp2
    go_ret2
    exact ⟨rfl, rfl⟩
  by_cases hc2 : 192 ≤ a ∧ a < 224
  · have m1 : bits .and .u8 (a : Int) 224 = 192 := by
      have q := m_hi a 5 224 (by decide) (by omega) l0 (by omega)
      rw [show a / 2 ^ 5 * 2 ^ 5 = 192 by omega] at q
      exact q
    by_cases hn : s.size < 2
    · have : dcod s.size a (B s 1) (B s 2) (B s 3) = (65533, 0) := by unfold dcod; rw [if_neg h0, if_neg ha, if_pos hc2, if_pos hn]
      rw [this]
      go_enter Try.func5, Try.ntmps5
      go_wp2
      go_ret2
      exact ⟨rfl, rfl⟩
    have e1 := B_at s 1 (by omega)
    have l1 := B_lt s 1
    generalize B s 1 = b at *
    by_cases hb : b / 64 = 2
    · have k1 : bits .and .u8 (b : Int) 192 = 128 := by
        have q := m_hi b 6 192 (by decide) (by omega) l1 (by omega)
        rw [show b / 2 ^ 6 * 2 ^ 6 = 128 by omega] at q
        exact q
      obtain ⟨x, hx⟩ : ∃ x, x = a - 192 := ⟨_, rfl⟩
      obtain ⟨y, hy⟩ : ∃ y, y = b % 64 := ⟨_, rfl⟩
      have q1 : bits .and .u8 (a : Int) 31 = (x : Int) := by
        have q := m_lo a 5 31 (by decide) l0 (by omega)
        rw [show a % 2 ^ 5 = x by omega] at q
        exact q
      have q2 : bits .and .u8 (b : Int) 63 = (y : Int) := by
        have q := m_lo b 6 63 (by decide) l1 (by omega)
        rw [show b % 2 ^ 6 = y by omega] at q
        exact q
      obtain ⟨z, hz⟩ : ∃ z, z = x * 64 + y := ⟨_, rfl⟩
      have q3 : bits .or .i32 ((x : Int) * 64) (y : Int) = (z : Int) := by
        have q := o_add x y 6 (by omega) (by omega)
        rw [hz]
        exact q
      have hd : dcod s.size a b (B s 2) (B s 3) = if 128 ≤ z then (z, 2) else (65533, 1) := by
        unfold dcod
        rw [if_neg h0, if_neg ha, if_pos hc2, if_neg hn, ← hx, ← hy, ← hz]
        by_cases h : 128 ≤ z
        · rw [if_pos h, if_pos ⟨hb, h⟩]
        · rw [if_neg h, if_neg (fun q => h q.2)]
      rw [hd]
      have bx : x < 32 := by omega
      have by' : y < 64 := by omega
      have bz : z < 2048 := by omega
      clear hx hy hz hd
      by_cases h : 128 ≤ z
      · rw [if_pos h]
        go_enter Try.func5, Try.ntmps5
        go_wp2
        go_ret2
        exact ⟨rfl, rfl⟩
      · rw [if_neg h]
        go_enter Try.func5, Try.ntmps5
        go_wp2
        go_ret2
        exact ⟨rfl, rfl⟩
    · obtain ⟨v, k1, kv⟩ : ∃ v : Nat, bits .and .u8 (b : Int) 192 = (v : Int) ∧ v ≠ 128 := ⟨b / 2 ^ 6 * 2 ^ 6, m_hi b 6 192 (by decide) (by omega) l1 (by omega), by omega⟩
      have kn : ((v : Int) != 128) = true := by simp; omega
      have hd : dcod s.size a b (B s 2) (B s 3) = (65533, 1) := by
        unfold dcod
        rw [if_neg h0, if_neg ha, if_pos hc2, if_neg hn, if_neg (fun q => hb q.1)]
      rw [hd]
      clear hd kv
      go_enter Try.func5, Try.ntmps5
      go_wp2
      go_ret2
      exact ⟨rfl, rfl⟩
  by_cases hc3 : 224 ≤ a ∧ a < 240
  · have m1 : bits .and .u8 (a : Int) 224 = 224 := by
      have q := m_hi a 5 224 (by decide) (by omega) l0 (by omega)
      rw [show a / 2 ^ 5 * 2 ^ 5 = 224 by omega] at q
      exact q
    have m2 : bits .and .u8 (a : Int) 240 = 224 := by
      have q := m_hi a 4 240 (by decide) (by omega) l0 (by omega)
      rw [show a / 2 ^ 4 * 2 ^ 4 = 224 by omega] at q
      exact q
    by_cases hn : s.size < 3
    · have : dcod s.size a (B s 1) (B s 2) (B s 3) = (65533, 0) := by unfold dcod; rw [if_neg h0, if_neg ha, if_neg hc2, if_pos hc3, if_pos hn]
      rw [this]
      go_enter Try.func5, Try.ntmps5
      go_wp2
      go_ret2
      exact ⟨rfl, rfl⟩
    have e1 := B_at s 1 (by omega)
    have lb := B_lt s 1
    have e2 := B_at s 2 (by omega)
    have lc := B_lt s 2
    generalize B s 1 = b at *
    generalize B s 2 = c at *
    generalize B s 3 = d at *
    by_cases nhb : ¬ b / 64 = 2
    · obtain ⟨v, kb, kv⟩ : ∃ v : Nat, bits .and .u8 (b : Int) 192 = (v : Int) ∧ v ≠ 128 := ⟨b / 2 ^ 6 * 2 ^ 6, m_hi b 6 192 (by decide) (by omega) lb (by omega), by omega⟩
      have kn : ((v : Int) != 128) = true := by simp; omega
      have hd : dcod s.size a b c d = (65533, 1) := by
        unfold dcod
        rw [if_neg h0, if_neg ha, if_neg hc2, if_pos hc3, if_neg hn, if_neg (fun q => nhb q.1)]
      rw [hd]
      clear hd kv
      go_enter Try.func5, Try.ntmps5
      go_wp2
      go_ret2
      exact ⟨rfl, rfl⟩
    have hb : b / 64 = 2 := by omega
    have kb : bits .and .u8 (b : Int) 192 = 128 := by
      have q := m_hi b 6 192 (by decide) (by omega) lb (by omega)
      rw [show b / 2 ^ 6 * 2 ^ 6 = 128 by omega] at q
      exact q
    by_cases nhcc : ¬ c / 64 = 2
    · obtain ⟨v, kc, kv⟩ : ∃ v : Nat, bits .and .u8 (c : Int) 192 = (v : Int) ∧ v ≠ 128 := ⟨c / 2 ^ 6 * 2 ^ 6, m_hi c 6 192 (by decide) (by omega) lc (by omega), by omega⟩
      have kn : ((v : Int) != 128) = true := by simp; omega
      have hd : dcod s.size a b c d = (65533, 1) := by
        unfold dcod
        rw [if_neg h0, if_neg ha, if_neg hc2, if_pos hc3, if_neg hn, if_neg (fun q => nhcc q.2.1)]
      rw [hd]
      clear hd kv
      go_enter Try.func5, Try.ntmps5
      go_wp2
      go_ret2
      exact ⟨rfl, rfl⟩
    have hcc : c / 64 = 2 := by omega
    have kc : bits .and .u8 (c : Int) 192 = 128 := by
      have q := m_hi c 6 192 (by decide) (by omega) lc (by omega)
      rw [show c / 2 ^ 6 * 2 ^ 6 = 128 by omega] at q
      exact q
    obtain ⟨x, hx⟩ : ∃ x, x = a - 224 := ⟨_, rfl⟩
    obtain ⟨y, hy⟩ : ∃ y, y = b % 64 := ⟨_, rfl⟩
    obtain ⟨z, hz⟩ : ∃ z, z = c % 64 := ⟨_, rfl⟩
    have q1 : bits .and .u8 (a : Int) 15 = (x : Int) := by
      have q := m_lo a 4 15 (by decide) l0 (by omega)
      rw [show a % 2 ^ 4 = x by omega] at q
      exact q
    have q2 : bits .and .u8 (b : Int) 63 = (y : Int) := by
      have q := m_lo b 6 63 (by decide) lb (by omega)
      rw [show b % 2 ^ 6 = y by omega] at q
      exact q
    have q3 : bits .and .u8 (c : Int) 63 = (z : Int) := by
      have q := m_lo c 6 63 (by decide) lc (by omega)
      rw [show c % 2 ^ 6 = z by omega] at q
      exact q
    obtain ⟨t1, ht1⟩ : ∃ t1, t1 = x * 4096 + y * 64 := ⟨_, rfl⟩
    obtain ⟨t, ht⟩ : ∃ t, t = t1 + z := ⟨_, rfl⟩
    have q4 : bits .or .i32 ((x : Int) * 4096) ((y : Int) * 64) = (t1 : Int) := by
      have q := o_add x (y * 64) 12 (by omega) (by omega)
      rw [ht1]
      exact q
    have q5 : bits .or .i32 (t1 : Int) (z : Int) = (t : Int) := by
      have q := o_add (x * 64 + y) z 6 (by omega) (by omega)
      rw [show (x * 64 + y) * 2 ^ 6 = t1 by omega] at q
      rw [ht]
      exact q
    have hd : dcod s.size a b c d = if 2048 ≤ t then (t, 3) else (65533, 1) := by
      unfold dcod
      rw [if_neg h0, if_neg ha, if_neg hc2, if_pos hc3, if_neg hn, ← hx, ← hy, ← hz, ← ht1, ← ht]
      by_cases h : 2048 ≤ t
      · rw [if_pos h, if_pos ⟨hb, hcc, h⟩]
      · rw [if_neg h, if_neg (fun q => h q.2.2)]
    rw [hd]
    have bx : x < 16 := by omega
    have by' : y < 64 := by omega
    have bz : z < 64 := by omega
    have bt1 : t1 < 65536 := by omega
    have bt : t < 65536 := by omega
    clear hx hy hz ht1 ht hd
    by_cases h : 2048 ≤ t
    · rw [if_pos h]
      go_enter Try.func5, Try.ntmps5
      go_wp2
      go_ret2
      exact ⟨rfl, rfl⟩
    · rw [if_neg h]
      go_enter Try.func5, Try.ntmps5
      go_wp2
      go_ret2
      exact ⟨rfl, rfl⟩
  by_cases hc4 : 240 ≤ a ∧ a < 248
  · have m1 : bits .and .u8 (a : Int) 224 = 224 := by
      have q := m_hi a 5 224 (by decide) (by omega) l0 (by omega)
      rw [show a / 2 ^ 5 * 2 ^ 5 = 224 by omega] at q
      exact q
    have m2 : bits .and .u8 (a : Int) 240 = 240 := by
      have q := m_hi a 4 240 (by decide) (by omega) l0 (by omega)
      rw [show a / 2 ^ 4 * 2 ^ 4 = 240 by omega] at q
      exact q
    have m3 : bits .and .u8 (a : Int) 248 = 240 := by
      have q := m_hi a 3 248 (by decide) (by omega) l0 (by omega)
      rw [show a / 2 ^ 3 * 2 ^ 3 = 240 by omega] at q
      exact q
    by_cases hn : s.size < 4
    · have : dcod s.size a (B s 1) (B s 2) (B s 3) = (65533, 0) := by unfold dcod; rw [if_neg h0, if_neg ha, if_neg hc2, if_neg hc3, if_pos hc4, if_pos hn]
      rw [this]
      go_enter Try.func5, Try.ntmps5
      go_wp2
      go_ret2
      exact ⟨rfl, rfl⟩
    have e1 := B_at s 1 (by omega)
    have lb := B_lt s 1
    have e2 := B_at s 2 (by omega)
    have lc := B_lt s 2
    have e3 := B_at s 3 (by omega)
    have ld := B_lt s 3
    generalize B s 1 = b at *
    generalize B s 2 = c at *
    generalize B s 3 = d at *
    by_cases nhb : ¬ b / 64 = 2
    · obtain ⟨v, kb, kv⟩ : ∃ v : Nat, bits .and .u8 (b : Int) 192 = (v : Int) ∧ v ≠ 128 := ⟨b / 2 ^ 6 * 2 ^ 6, m_hi b 6 192 (by decide) (by omega) lb (by omega), by omega⟩
      have kn : ((v : Int) != 128) = true := by simp; omega
      have hd : dcod s.size a b c d = (65533, 1) := by
        unfold dcod
        rw [if_neg h0, if_neg ha, if_neg hc2, if_neg hc3, if_pos hc4, if_neg hn, if_neg (fun q => nhb q.1)]
      rw [hd]
      clear hd kv
      go_enter Try.func5, Try.ntmps5
      go_wp2
      go_ret2
      exact ⟨rfl, rfl⟩
    have hb : b / 64 = 2 := by omega
    have kb : bits .and .u8 (b : Int) 192 = 128 := by
      have q := m_hi b 6 192 (by decide) (by omega) lb (by omega)
      rw [show b / 2 ^ 6 * 2 ^ 6 = 128 by omega] at q
      exact q
    by_cases nhcc : ¬ c / 64 = 2
    · obtain ⟨v, kc, kv⟩ : ∃ v : Nat, bits .and .u8 (c : Int) 192 = (v : Int) ∧ v ≠ 128 := ⟨c / 2 ^ 6 * 2 ^ 6, m_hi c 6 192 (by decide) (by omega) lc (by omega), by omega⟩
      have kn : ((v : Int) != 128) = true := by simp; omega
      have hd : dcod s.size a b c d = (65533, 1) := by
        unfold dcod
        rw [if_neg h0, if_neg ha, if_neg hc2, if_neg hc3, if_pos hc4, if_neg hn, if_neg (fun q => nhcc q.2.1)]
      rw [hd]
      clear hd kv
      go_enter Try.func5, Try.ntmps5
      go_wp2
      go_ret2
      exact ⟨rfl, rfl⟩
    have hcc : c / 64 = 2 := by omega
    have kc : bits .and .u8 (c : Int) 192 = 128 := by
      have q := m_hi c 6 192 (by decide) (by omega) lc (by omega)
      rw [show c / 2 ^ 6 * 2 ^ 6 = 128 by omega] at q
      exact q
    by_cases nhdd : ¬ d / 64 = 2
    · obtain ⟨v, kd, kv⟩ : ∃ v : Nat, bits .and .u8 (d : Int) 192 = (v : Int) ∧ v ≠ 128 := ⟨d / 2 ^ 6 * 2 ^ 6, m_hi d 6 192 (by decide) (by omega) ld (by omega), by omega⟩
      have kn : ((v : Int) != 128) = true := by simp; omega
      have hd : dcod s.size a b c d = (65533, 1) := by
        unfold dcod
        rw [if_neg h0, if_neg ha, if_neg hc2, if_neg hc3, if_pos hc4, if_neg hn, if_neg (fun q => nhdd q.2.2.1)]
      rw [hd]
      clear hd kv
      go_enter Try.func5, Try.ntmps5
      go_wp2
      go_ret2
      exact ⟨rfl, rfl⟩
    have hdd : d / 64 = 2 := by omega
    have kd : bits .and .u8 (d : Int) 192 = 128 := by
      have q := m_hi d 6 192 (by decide) (by omega) ld (by omega)
      rw [show d / 2 ^ 6 * 2 ^ 6 = 128 by omega] at q
      exact q
    obtain ⟨x, hx⟩ : ∃ x, x = a - 240 := ⟨_, rfl⟩
    obtain ⟨y, hy⟩ : ∃ y, y = b % 64 := ⟨_, rfl⟩
    obtain ⟨z, hz⟩ : ∃ z, z = c % 64 := ⟨_, rfl⟩
    have q1 : bits .and .u8 (a : Int) 7 = (x : Int) := by
      have q := m_lo a 3 7 (by decide) l0 (by omega)
      rw [show a % 2 ^ 3 = x by omega] at q
      exact q
    have q2 : bits .and .u8 (b : Int) 63 = (y : Int) := by
      have q := m_lo b 6 63 (by decide) lb (by omega)
      rw [show b % 2 ^ 6 = y by omega] at q
      exact q
    have q3 : bits .and .u8 (c : Int) 63 = (z : Int) := by
      have q := m_lo c 6 63 (by decide) lc (by omega)
      rw [show c % 2 ^ 6 = z by omega] at q
      exact q
    obtain ⟨u, hu⟩ : ∃ u, u = d % 64 := ⟨_, rfl⟩
    have q3' : bits .and .u8 (d : Int) 63 = (u : Int) := by
      have q := m_lo d 6 63 (by decide) ld (by omega)
      rw [show d % 2 ^ 6 = u by omega] at q
      exact q
    obtain ⟨t1, ht1⟩ : ∃ t1, t1 = x * 262144 + y * 4096 := ⟨_, rfl⟩
    obtain ⟨t2, ht2⟩ : ∃ t2, t2 = t1 + z * 64 := ⟨_, rfl⟩
    obtain ⟨t, ht⟩ : ∃ t, t = t2 + u := ⟨_, rfl⟩
    have q4 : bits .or .i32 ((x : Int) * 262144) ((y : Int) * 4096) = (t1 : Int) := by
      have q := o_add x (y * 4096) 18 (by omega) (by omega)
      rw [ht1]
      exact q
    have q5 : bits .or .i32 (t1 : Int) ((z : Int) * 64) = (t2 : Int) := by
      have q := o_add (x * 64 + y) (z * 64) 12 (by omega) (by omega)
      rw [show (x * 64 + y) * 2 ^ 12 = t1 by omega] at q
      rw [ht2]
      exact q
    have q6 : bits .or .i32 (t2 : Int) (u : Int) = (t : Int) := by
      have q := o_add (x * 4096 + y * 64 + z) u 6 (by omega) (by omega)
      rw [show (x * 4096 + y * 64 + z) * 2 ^ 6 = t2 by omega] at q
      rw [ht]
      exact q
    have hd : dcod s.size a b c d = if 65536 ≤ t ∧ t ≤ 1114111 then (t, 4) else (65533, 1) := by
      unfold dcod
      rw [if_neg h0, if_neg ha, if_neg hc2, if_neg hc3, if_pos hc4, if_neg hn, ← hx, ← hy, ← hz, ← hu, ← ht1, ← ht2, ← ht]
      by_cases h : 65536 ≤ t ∧ t ≤ 1114111
      · rw [if_pos h, if_pos ⟨hb, hcc, hdd, h⟩]
      · rw [if_neg h, if_neg (fun q => h q.2.2.2)]
    rw [hd]
    have bx : x < 8 := by omega
    have by' : y < 64 := by omega
    have bz : z < 64 := by omega
    have bu : u < 64 := by omega
    have bt1 : t1 < 2097152 := by omega
    have bt2 : t2 < 2097152 := by omega
    have bt : t < 2097152 := by omega
    clear hx hy hz hu ht1 ht2 ht hd
    by_cases h : 65536 ≤ t ∧ t ≤ 1114111
    · rw [if_pos h]
      obtain ⟨hA, hB⟩ := h
      go_enter Try.func5, Try.ntmps5
      go_wp2
      go_ret2
      exact ⟨rfl, rfl⟩
    · rw [if_neg h]
      by_cases hA : 65536 ≤ t
      · have hB : 1114111 < t := by omega
        clear h
        go_enter Try.func5, Try.ntmps5
        go_wp2
        go_ret2
        exact ⟨rfl, rfl⟩
      · clear h
        go_enter Try.func5, Try.ntmps5
        go_wp2
        go_ret2
        exact ⟨rfl, rfl⟩
  have hd : dcod s.size a (B s 1) (B s 2) (B s 3) = (65533, 1) := by
    unfold dcod
    rw [if_neg h0, if_neg ha, if_neg hc2, if_neg hc3, if_neg hc4]
  rw [hd]
  clear hd
  obtain ⟨v1, k1, n1⟩ : ∃ v : Nat, bits .and .u8 (a : Int) 224 = (v : Int) ∧ ((v : Int) == 192) = false := ⟨a / 2 ^ 5 * 2 ^ 5, m_hi a 5 224 (by decide) (by omega) l0 (by omega), by simp only [beq_eq_false_iff_ne]; omega⟩
  obtain ⟨v2, k2, n2⟩ : ∃ v : Nat, bits .and .u8 (a : Int) 240 = (v : Int) ∧ ((v : Int) == 224) = false := ⟨a / 2 ^ 4 * 2 ^ 4, m_hi a 4 240 (by decide) (by omega) l0 (by omega), by simp only [beq_eq_false_iff_ne]; omega⟩
  obtain ⟨v3, k3, n3⟩ : ∃ v : Nat, bits .and .u8 (a : Int) 248 = (v : Int) ∧ ((v : Int) == 240) = false := ⟨a / 2 ^ 3 * 2 ^ 3, m_hi a 3 248 (by decide) (by omega) l0 (by omega), by simp only [beq_eq_false_iff_ne]; omega⟩
  go_enter Try.func5, Try.ntmps5
  go_wp2
  go_ret2
  exact ⟨rfl, rfl⟩
end Go.Proofs.Ytihcflebpgefbaa
