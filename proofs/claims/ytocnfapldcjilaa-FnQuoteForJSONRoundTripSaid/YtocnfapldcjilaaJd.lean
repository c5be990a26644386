/-
  The contract of DecodeWTF8Rune. No condition.
-/
import Derived.Test.YtocnfapldcjilaaJp
import Derived.Test.YtocnfapldcjilaaOwn
import Derived.Test.YtocnfapldcjilaaProg
import Derived.WalkSmall
namespace Go.Proofs.Ytocnfapldcjilaa
open Go.ChangeShapes Go.WideShapes Go.ChangeAt Go.RowKit
set_option linter.unusedVariables false

def Gives (r : Nat × Nat) (w : World) (e : Ending) (w' : World) : Prop := e = .returned (.tuple #[.int .i32 (r.1 : Int), .int .i64 (r.2 : Int)]) ∧ w = w'
set_option maxRecDepth 100000 in
set_option maxHeartbeats 8000000 in
theorem dec32 (s : ByteArray) (hs : s.size ≤ 4194304) (w : World) :
    Calls Try.prog 32 #[.string s] w (Gives (dcod s.size (B s 0) (B s 1) (B s 2) (B s 3)) w) := by
  by_cases h0 : s.size = 0
  · have : dcod s.size (B s 0) (B s 1) (B s 2) (B s 3) = (65533, 0) := by unfold dcod; rw [if_pos h0]
    rw [this]
    go_enter Try.func32, Try.ntmps32
    go_wp2
    go_ret2
    exact ⟨rfl, rfl⟩
  have e0 := B_at s 0 (by omega)
  have l0 := B_lt s 0
  generalize B s 0 = a at *
  by_cases ha : a < 128
  · have : dcod s.size a (B s 1) (B s 2) (B s 3) = (a, 1) := by unfold dcod; rw [if_neg h0, if_pos ha]
    rw [this]
    go_enter Try.func32, Try.ntmps32
    go_wp2
    go_ret2
    exact ⟨rfl, rfl⟩
  by_cases hc2 : 192 ≤ a ∧ a < 224
  · have m1 : bits .and .u8 (a : Int) 224 = 192 := by
      have q := m_hi a 5 224 (by decide) (by omega) l0 (by omega)
      rw [show a / 2 ^ 5 * 2 ^ 5 = 192 by omega] at q
      exact q
    by_cases hn : s.size < 2
    · have : dcod s.size a (B s 1) (B s 2) (B s 3) = (65533, 0) := by unfold dcod; rw [if_neg h0, if_neg ha, if_pos hc2, if_pos hn]
      rw [this]
      go_enter Try.func32, Try.ntmps32
      go_wp2
      go_ret2
      exact ⟨rfl, rfl⟩
    have e1 := B_at s 1 (by omega)
    have l1 := B_lt s 1
    generalize B s 1 = b at *
    by_cases hb : b / 64 = 2
    · have k1 : bits .and .u8 (b : Int) 192 = 128 := by
        have q := m_hi b 6 192 (by decide) (by omega) l1 (by omega)
        rw [show b / 2 ^ 6 * 2 ^ 6 = 128 by omega] at q
        exact q
      obtain ⟨x, hx⟩ : ∃ x, x = a - 192 := ⟨_, rfl⟩
      obtain ⟨y, hy⟩ : ∃ y, y = b % 64 := ⟨_, rfl⟩
      have q1 : bits .and .u8 (a : Int) 31 = (x : Int) := by
        have q := m_lo a 5 31 (by decide) l0 (by omega)
        rw [show a % 2 ^ 5 = x by omega] at q
        exact q
      have q2 : bits .and .u8 (b : Int) 63 = (y : Int) := by
        have q := m_lo b 6 63 (by decide) l1 (by omega)
        rw [show b % 2 ^ 6 = y by omega] at q
        exact q
      obtain ⟨z, hz⟩ : ∃ z, z = x * 64 + y := ⟨_, rfl⟩
      have q3 : bits .or .i32 ((x : Int) * 64) (y : Int) = (z : Int) := by
        have q := o_add x y 6 (by omega) (by omega)
        rw [hz]
        exact q
      have hd : dcod s.size a b (B s 2) (B s 3) = if 128 ≤ z then (z, 2) else (65533, 1) := by
        unfold dcod
        rw [if_neg h0, if_neg ha, if_pos hc2, if_neg hn, ← hx, ← hy, ← hz]
        by_cases h : 128 ≤ z
        · rw [if_pos h, if_pos ⟨hb, h⟩]
        · rw [if_neg h, if_neg (fun q => h q.2)]
      rw [hd]
      have bx : x < 32 := by omega
      have by' : y < 64 := by omega
      have bz : z < 2048 := by omega
      clear hx hy hz hd
      by_cases h : 128 ≤ z
      · rw [if_pos h]
        go_enter Try.func32, Try.ntmps32
        go_wp2
        go_ret2
        exact ⟨rfl, rfl⟩
      · rw [if_neg h]
        go_enter Try.func32, Try.ntmps32
        go_wp2
        go_ret2
        exact ⟨rfl, rfl⟩
    · obtain ⟨v, k1, kv⟩ : ∃ v : Nat, bits .and .u8 (b : Int) 192 = (v : Int) ∧ v ≠ 128 := ⟨b / 2 ^ 6 * 2 ^ 6, m_hi b 6 192 (by decide) (by omega) l1 (by omega), by omega⟩
      have kn : ((v : Int) != 128) = true := by simp; omega
      have hd : dcod s.size a b (B s 2) (B s 3) = (65533, 1) := by
        unfold dcod
        rw [if_neg h0, if_neg ha, if_pos hc2, if_neg hn, if_neg (fun q => hb q.1)]
      rw [hd]
      clear hd kv
      go_enter Try.func32, Try.ntmps32
      go_wp2
      go_ret2
      exact ⟨rfl, rfl⟩
  by_cases hc3 : 224 ≤ a ∧ a < 240
  · have m1 : bits .and .u8 (a : Int) 224 = 224 := by
      have q := m_hi a 5 224 (by decide) (by omega) l0 (by omega)
      rw [show a / 2 ^ 5 * 2 ^ 5 = 224 by omega] at q
      exact q
    have m2 : bits .and .u8 (a : Int) 240 = 224 := by
      have q := m_hi a 4 240 (by decide) (by omega) l0 (by omega)
      rw [show a / 2 ^ 4 * 2 ^ 4 = 224 by omega] at q
      exact q
    by_cases hn : s.size < 3
    · have : dcod s.size a (B s 1) (B s 2) (B s 3) = (65533, 0) := by unfold dcod; rw [if_neg h0, if_neg ha, if_neg hc2, if_pos hc3, if_pos hn]
      rw [this]
      go_enter Try.func32, Try.ntmps32
      go_wp2
      go_ret2
      exact ⟨rfl, rfl⟩
    have e1 := B_at s 1 (by omega)
    have lb := B_lt s 1
    have e2 := B_at s 2 (by omega)
    have lc := B_lt s 2
    generalize B s 1 = b at *
    generalize B s 2 = c at *
    generalize B s 3 = d at *
    by_cases nhb : ¬ b / 64 = 2
    · obtain ⟨v, kb, kv⟩ : ∃ v : Nat, bits .and .u8 (b : Int) 192 = (v : Int) ∧ v ≠ 128 := ⟨b / 2 ^ 6 * 2 ^ 6, m_hi b 6 192 (by decide) (by omega) lb (by omega), by omega⟩
      have kn : ((v : Int) != 128) = true := by simp; omega
      have hd : dcod s.size a b c d = (65533, 1) := by
        unfold dcod
        rw [if_neg h0, if_neg ha, if_neg hc2, if_pos hc3, if_neg hn, if_neg (fun q => nhb q.1)]
      rw [hd]
      clear hd kv
      go_enter Try.func32, Try.ntmps32
      go_wp2
      go_ret2
      exact ⟨rfl, rfl⟩
    have hb : b / 64 = 2 := by omega
    have kb : bits .and .u8 (b : Int) 192 = 128 := by
      have q := m_hi b 6 192 (by decide) (by omega) lb (by omega)
      rw [show b / 2 ^ 6 * 2 ^ 6 = 128 by omega] at q
      exact q
    by_cases nhcc : ¬ c / 64 = 2
    · obtain ⟨v, kc, kv⟩ : ∃ v : Nat, bits .and .u8 (c : Int) 192 = (v : Int) ∧ v ≠ 128 := ⟨c / 2 ^ 6 * 2 ^ 6, m_hi c 6 192 (by decide) (by omega) lc (by omega), by omega⟩
      have kn : ((v : Int) != 128) = true := by simp; omega
      have hd : dcod s.size a b c d = (65533, 1) := by
        unfold dcod
        rw [if_neg h0, if_neg ha, if_neg hc2, if_pos hc3, if_neg hn, if_neg (fun q => nhcc q.2.1)]
      rw [hd]
      clear hd kv
      go_enter Try.func32, Try.ntmps32
      go_wp2
      go_ret2
      exact ⟨rfl, rfl⟩
    have hcc : c / 64 = 2 := by omega
    have kc : bits .and .u8 (c : Int) 192 = 128 := by
      have q := m_hi c 6 192 (by decide) (by omega) lc (by omega)
      rw [show c / 2 ^ 6 * 2 ^ 6 = 128 by omega] at q
      exact q
    obtain ⟨x, hx⟩ : ∃ x, x = a - 224 := ⟨_, rfl⟩
    obtain ⟨y, hy⟩ : ∃ y, y = b % 64 := ⟨_, rfl⟩
    obtain ⟨z, hz⟩ : ∃ z, z = c % 64 := ⟨_, rfl⟩
    have q1 : bits .and .u8 (a : Int) 15 = (x : Int) := by
      have q := m_lo a 4 15 (by decide) l0 (by omega)
      rw [show a % 2 ^ 4 = x by omega] at q
      exact q
    have q2 : bits .and .u8 (b : Int) 63 = (y : Int) := by
      have q := m_lo b 6 63 (by decide) lb (by omega)
      rw [show b % 2 ^ 6 = y by omega] at q
      exact q
    have q3 : bits .and .u8 (c : Int) 63 = (z : Int) := by
      have q := m_lo c 6 63 (by decide) lc (by omega)
      rw [show c % 2 ^ 6 = z by omega] at q
      exact q
    obtain ⟨t1, ht1⟩ : ∃ t1, t1 = x * 4096 + y * 64 := ⟨_, rfl⟩
    obtain ⟨t, ht⟩ : ∃ t, t = t1 + z := ⟨_, rfl⟩
    have q4 : bits .or .i32 ((x : Int) * 4096) ((y : Int) * 64) = (t1 : Int) := by
      have q := o_add x (y * 64) 12 (by omega) (by omega)
      rw [ht1]
      exact q
    have q5 : bits .or .i32 (t1 : Int) (z : Int) = (t : Int) := by
      have q := o_add (x * 64 + y) z 6 (by omega) (by omega)
      rw [show (x * 64 + y) * 2 ^ 6 = t1 by omega] at q
      rw [ht]
      exact q
    have hd : dcod s.size a b c d = if 2048 ≤ t then (t, 3) else (65533, 1) := by
      unfold dcod
      rw [if_neg h0, if_neg ha, if_neg hc2, if_pos hc3, if_neg hn, ← hx, ← hy, ← hz, ← ht1, ← ht]
      by_cases h : 2048 ≤ t
      · rw [if_pos h, if_pos ⟨hb, hcc, h⟩]
      · rw [if_neg h, if_neg (fun q => h q.2.2)]
    rw [hd]
    have bx : x < 16 := by omega
    have by' : y < 64 := by omega
    have bz : z < 64 := by omega
    have bt1 : t1 < 65536 := by omega
    have bt : t < 65536 := by omega
    clear hx hy hz ht1 ht hd
    by_cases h : 2048 ≤ t
    · rw [if_pos h]
      go_enter Try.func32, Try.ntmps32
      go_wp2
      go_ret2
      exact ⟨rfl, rfl⟩
    · rw [if_neg h]
      go_enter Try.func32, Try.ntmps32
      go_wp2
      go_ret2
      exact ⟨rfl, rfl⟩
  by_cases hc4 : 240 ≤ a ∧ a < 248
  · have m1 : bits .and .u8 (a : Int) 224 = 224 := by
      have q := m_hi a 5 224 (by decide) (by omega) l0 (by omega)
      rw [show a / 2 ^ 5 * 2 ^ 5 = 224 by omega] at q
      exact q
    have m2 : bits .and .u8 (a : Int) 240 = 240 := by
      have q := m_hi a 4 240 (by decide) (by omega) l0 (by omega)
      rw [show a / 2 ^ 4 * 2 ^ 4 = 240 by omega] at q
      exact q
    have m3 : bits .and .u8 (a : Int) 248 = 240 := by
      have q := m_hi a 3 248 (by decide) (by omega) l0 (by omega)
      rw [show a / 2 ^ 3 * 2 ^ 3 = 240 by omega] at q
      exact q
    by_cases hn : s.size < 4
    · have : dcod s.size a (B s 1) (B s 2) (B s 3) = (65533, 0) := by unfold dcod; rw [if_neg h0, if_neg ha, if_neg hc2, if_neg hc3, if_pos hc4, if_pos hn]
      rw [this]
      go_enter Try.func32, Try.ntmps32
      go_wp2
      go_ret2
      exact ⟨rfl, rfl⟩
    have e1 := B_at s 1 (by omega)
    have lb := B_lt s 1
    have e2 := B_at s 2 (by omega)
    have lc := B_lt s 2
    have e3 := B_at s 3 (by omega)
    have ld := B_lt s 3
    generalize B s 1 = b at *
    generalize B s 2 = c at *
    generalize B s 3 = d at *
    by_cases nhb : ¬ b / 64 = 2
    · obtain ⟨v, kb, kv⟩ : ∃ v : Nat, bits .and .u8 (b : Int) 192 = (v : Int) ∧ v ≠ 128 := ⟨b / 2 ^ 6 * 2 ^ 6, m_hi b 6 192 (by decide) (by omega) lb (by omega), by omega⟩
      have kn : ((v : Int) != 128) = true := by simp; omega
      have hd : dcod s.size a b c d = (65533, 1) := by
        unfold dcod
        rw [if_neg h0, if_neg ha, if_neg hc2, if_neg hc3, if_pos hc4, if_neg hn, if_neg (fun q => nhb q.1)]
      rw [hd]
      clear hd kv
      go_enter Try.func32, Try.ntmps32
      go_wp2
      go_ret2
      exact ⟨rfl, rfl⟩
    have hb : b / 64 = 2 := by omega
    have kb : bits .and .u8 (b : Int) 192 = 128 := by
      have q := m_hi b 6 192 (by decide) (by omega) lb (by omega)
      rw [show b / 2 ^ 6 * 2 ^ 6 = 128 by omega] at q
      exact q
    by_cases nhcc : ¬ c / 64 = 2
    · obtain ⟨v, kc, kv⟩ : ∃ v : Nat, bits .and .u8 (c : Int) 192 = (v : Int) ∧ v ≠ 128 := ⟨c / 2 ^ 6 * 2 ^ 6, m_hi c 6 192 (by decide) (by omega) lc (by omega), by omega⟩
      have kn : ((v : Int) != 128) = true := by simp; omega
      have hd : dcod s.size a b c d = (65533, 1) := by
        unfold dcod
        rw [if_neg h0, if_neg ha, if_neg hc2, if_neg hc3, if_pos hc4, if_neg hn, if_neg (fun q => nhcc q.2.1)]
      rw [hd]
      clear hd kv
      go_enter Try.func32, Try.ntmps32
      go_wp2
      go_ret2
      exact ⟨rfl, rfl⟩
    have hcc : c / 64 = 2 := by omega
    have kc : bits .and .u8 (c : Int) 192 = 128 := by
      have q := m_hi c 6 192 (by decide) (by omega) lc (by omega)
      rw [show c / 2 ^ 6 * 2 ^ 6 = 128 by omega] at q
      exact q
    by_cases nhdd : ¬ d / 64 = 2
    · obtain ⟨v, kd, kv⟩ : ∃ v : Nat, bits .and .u8 (d : Int) 192 = (v : Int) ∧ v ≠ 128 := ⟨d / 2 ^ 6 * 2 ^ 6, m_hi d 6 192 (by decide) (by omega) ld (by omega), by omega⟩
      have kn : ((v : Int) != 128) = true := by simp; omega
      have hd : dcod s.size a b c d = (65533, 1) := by
        unfold dcod
        rw [if_neg h0, if_neg ha, if_neg hc2, if_neg hc3, if_pos hc4, if_neg hn, if_neg (fun q => nhdd q.2.2.1)]
      rw [hd]
      clear hd kv
      go_enter Try.func32, Try.ntmps32
      go_wp2
      go_ret2
      exact ⟨rfl, rfl⟩
    have hdd : d / 64 = 2 := by omega
    have kd : bits .and .u8 (d : Int) 192 = 128 := by
      have q := m_hi d 6 192 (by decide) (by omega) ld (by omega)
      rw [show d / 2 ^ 6 * 2 ^ 6 = 128 by omega] at q
      exact q
    obtain ⟨x, hx⟩ : ∃ x, x = a - 240 := ⟨_, rfl⟩
    obtain ⟨y, hy⟩ : ∃ y, y = b % 64 := ⟨_, rfl⟩
    obtain ⟨z, hz⟩ : ∃ z, z = c % 64 := ⟨_, rfl⟩
    have q1 : bits .and .u8 (a : Int) 7 = (x : Int) := by
      have q := m_lo a 3 7 (by decide) l0 (by omega)
      rw [show a % 2 ^ 3 = x by omega] at q
      exact q
    have q2 : bits .and .u8 (b : Int) 63 = (y : Int) := by
      have q := m_lo b 6 63 (by decide) lb (by omega)
      rw [show b % 2 ^ 6 = y by omega] at q
      exact q
    have q3 : bits .and .u8 (c : Int) 63 = (z : Int) := by
      have q := m_lo c 6 63 (by decide) lc (by omega)
      rw [show c % 2 ^ 6 = z by omega] at q
      exact q
    obtain ⟨u, hu⟩ : ∃ u, u = d % 64 := ⟨_, rfl⟩
    have q3' : bits .and .u8 (d : Int) 63 = (u : Int) := by
      have q := m_lo d 6 63 (by decide) ld (by omega)
      rw [show d % 2 ^ 6 = u by omega] at q
      exact q
    obtain ⟨t1, ht1⟩ : ∃ t1, t1 = x * 262144 + y * 4096 := ⟨_, rfl⟩
    obtain ⟨t2, ht2⟩ : ∃ t2, t2 = t1 + z * 64 := ⟨_, rfl⟩
    obtain ⟨t, ht⟩ : ∃ t, t = t2 + u := ⟨_, rfl⟩
    have q4 : bits .or .i32 ((x : Int) * 262144) ((y : Int) * 4096) = (t1 : Int) := by
      have q := o_add x (y * 4096) 18 (by omega) (by omega)
      rw [ht1]
      exact q
    have q5 : bits .or .i32 (t1 : Int) ((z : Int) * 64) = (t2 : Int) := by
      have q := o_add (x * 64 + y) (z * 64) 12 (by omega) (by omega)
      rw [show (x * 64 + y) * 2 ^ 12 = t1 by omega] at q
      rw [ht2]
      exact q
    have q6 : bits .or .i32 (t2 : Int) (u : Int) = (t : Int) := by
      have q := o_add (x * 4096 + y * 64 + z) u 6 (by omega) (by omega)
      rw [show (x * 4096 + y * 64 + z) * 2 ^ 6 = t2 by omega] at q
      rw [ht]
      exact q
    have hd : dcod s.size a b c d = if 65536 ≤ t ∧ t ≤ 1114111 then (t, 4) else (65533, 1) := by
      unfold dcod
      rw [if_neg h0, if_neg ha, if_neg hc2, if_neg hc3, if_pos hc4, if_neg hn, ← hx, ← hy, ← hz, ← hu, ← ht1, ← ht2, ← ht]
      by_cases h : 65536 ≤ t ∧ t ≤ 1114111
      · rw [if_pos h, if_pos ⟨hb, hcc, hdd, h⟩]
      · rw [if_neg h, if_neg (fun q => h q.2.2.2)]
    rw [hd]
    have bx : x < 8 := by omega
    have by' : y < 64 := by omega
    have bz : z < 64 := by omega
    have bu : u < 64 := by omega
    have bt1 : t1 < 2097152 := by omega
    have bt2 : t2 < 2097152 := by omega
    have bt : t < 2097152 := by omega
    clear hx hy hz hu ht1 ht2 ht hd
    by_cases h : 65536 ≤ t ∧ t ≤ 1114111
    · rw [if_pos h]
      obtain ⟨hA, hB⟩ := h
      go_enter Try.func32, Try.ntmps32
      go_wp2
      go_ret2
      exact ⟨rfl, rfl⟩
    · rw [if_neg h]
      by_cases hA : 65536 ≤ t
      · have hB : 1114111 < t := by omega
        clear h
        go_enter Try.func32, Try.ntmps32
        go_wp2
        go_ret2
        exact ⟨rfl, rfl⟩
      · clear h
        go_enter Try.func32, Try.ntmps32
        go_wp2
        go_ret2
        exact ⟨rfl, rfl⟩
  have hd : dcod s.size a (B s 1) (B s 2) (B s 3) = (65533, 1) := by
    unfold dcod
    rw [if_neg h0, if_neg ha, if_neg hc2, if_neg hc3, if_neg hc4]
  rw [hd]
  clear hd
  obtain ⟨v1, k1, n1⟩ : ∃ v : Nat, bits .and .u8 (a : Int) 224 = (v : Int) ∧ ((v : Int) == 192) = false := ⟨a / 2 ^ 5 * 2 ^ 5, m_hi a 5 224 (by decide) (by omega) l0 (by omega), by simp only [beq_eq_false_iff_ne]; omega⟩
  obtain ⟨v2, k2, n2⟩ : ∃ v : Nat, bits .and .u8 (a : Int) 240 = (v : Int) ∧ ((v : Int) == 224) = false := ⟨a / 2 ^ 4 * 2 ^ 4, m_hi a 4 240 (by decide) (by omega) l0 (by omega), by simp only [beq_eq_false_iff_ne]; omega⟩
  obtain ⟨v3, k3, n3⟩ : ∃ v : Nat, bits .and .u8 (a : Int) 248 = (v : Int) ∧ ((v : Int) == 240) = false := ⟨a / 2 ^ 3 * 2 ^ 3, m_hi a 3 248 (by decide) (by omega) l0 (by omega), by simp only [beq_eq_false_iff_ne]; omega⟩
  go_enter Try.func32, Try.ntmps32
  go_wp2
  go_ret2
  exact ⟨rfl, rfl⟩
end Go.Proofs.Ytocnfapldcjilaa
