/-
  The contract of the model's test of validity. No condition.
-/
import Derived.Test.YtocnfapldcjilaaDoorSml
namespace Go.Proofs.YtocnfapldcjilaaDoor
open Go.ChangeShapes Go.WideShapes Go.ChangeAt Go.RowKit
set_option linter.unusedVariables false

set_option maxRecDepth 100000 in
set_option maxHeartbeats 8000000 in
theorem valid6 (s : ByteArray) (hs : s.size ≤ 4194304) (w : World) :
    Calls Tryd.prog 6 #[.string s] w fun e w' => e = .returned (.bool (validB s)) ∧ w = w' := by
  have hV := VF.start s
  generalize validB s = v at *
  have HV := Lib.hid hV
  clear hV
  go_enter Tryd.func6, Tryd.ntmps6
  go_wp2
  go_loop [3] (fun i => ∃ k : Nat, i = .int .i64 k ∧ k ≤ s.size ∧ VF s k v) (fun i => s.size - (iOf i).toNat)
  case atStart => exact ⟨0, rfl, Nat.zero_le _, HV.out⟩
  case round =>
    obtain ⟨i, rfl, hi, hv⟩ := hrel
    by_cases hn : i < s.size
    · have HB := Lib.hid (fun (hd : Utf8.decode s i = (65533, 1)) => hv.bad hn hd)
      have HG := fun (c k : Nat) => Lib.hid (fun (hd : Utf8.decode s i = (c, k)) (h1 : 1 ≤ k) (h2 : ¬ (c = 65533 ∧ k = 1)) => hv.go hn hd h1 h2)
      have e0 := B_at s i hn
      have l0 := B_lt s i
      have hD := decode_B s i
      clear hv
      have HD := Lib.hid hD
      clear hD
      generalize B s i = a at *
      by_cases ha : a < 128
      · have HN := Lib.hid ((HG a 1).out (by rw [HD.out]; exact decodeN_low ha) (by omega) (by omega))
        go_wp2
        go_round
        case rel => exact ⟨i + 1, by go_num, by omega, HN.out⟩
        case measure => simp [iOf]; omega
      by_cases hc2 : 194 ≤ a ∧ a ≤ 223
      · obtain ⟨g1, g2⟩ := hc2
        obtain ⟨x, hx⟩ : ∃ x, x = a % 32 := ⟨_, rfl⟩
        have q0 : bits .and .u8 (a : Int) 31 = (x : Int) := by
          have q := m_lo a 5 31 (by decide) l0 (by omega)
          rw [show a % 2 ^ 5 = x by omega] at q
          exact q
        have bx : x < 32 := by omega
        by_cases hw : s.size - i < 2
        · have HF := Lib.hid (HB.out (by rw [HD.out]; exact (step2 ⟨g1, g2⟩).1 (.inl hw)))
          clear hx
          go_wp2
          go_ret
          exact ⟨ret_bool HF.out.symm, rfl⟩
        have e1 := B_at s (i + 1) (by omega)
        have l1 := B_lt s (i + 1)
        generalize B s (i + 1) = b at *
        by_cases hb : ¬ b / 64 = 2
        · have HF := Lib.hid (HB.out (by rw [HD.out]; exact (step2 ⟨g1, g2⟩).1 (.inr hb)))
          obtain ⟨v', kb, kv⟩ : ∃ v' : Nat, bits .and .u8 (b : Int) 192 = (v' : Int) ∧ v' ≠ 128 := ⟨b / 2 ^ 6 * 2 ^ 6, m_hi b 6 192 (by decide) (by omega) l1 (by omega), by omega⟩
          have kn : ((v' : Int) != 128) = true := by simp; omega
          clear hx kv
          go_wp2
          refine wp_loop_rounds 1 ?_
          rw [rounds_succ]
          go_wp2
          go_ret
          exact ⟨ret_bool HF.out.symm, rfl⟩
        have hb : b / 64 = 2 := by omega
        have kb : bits .and .u8 (b : Int) 192 = 128 := by
          have q := m_hi b 6 192 (by decide) (by omega) l1 (by omega)
          rw [show b / 2 ^ 6 * 2 ^ 6 = 128 by omega] at q
          exact q
        obtain ⟨y, hy⟩ : ∃ y, y = b % 64 := ⟨_, rfl⟩
        have wy : y < 64 := by omega
        have q1 : bits .and .u8 (b : Int) 63 = (y : Int) := by
          have q := m_lo b 6 63 (by decide) l1 (by omega)
          rw [show b % 2 ^ 6 = y by omega] at q
          exact q
        obtain ⟨r1, hr1⟩ : ∃ r1, r1 = x * 64 + y := ⟨_, rfl⟩
        have p1 : bits .or .i32 ((x : Int) * 64) (y : Int) = (r1 : Int) := by
          have q := o_add x y 6 (by omega) (by omega)
          rw [hr1]
          exact q
        have br1 : r1 < 2048 := by omega
        have hbig : 128 ≤ r1 := by omega
        obtain ⟨q, hq⟩ := (step2 (n := s.size - i) (a := a) (b := b) (c := B s (i + 2)) (d := B s (i + 3)) ⟨g1, g2⟩).2 (by omega) hb
        have HN := Lib.hid ((HG q 2).out (by rw [HD.out]; exact hq) (by omega) (by omega))
        clear hx hy hr1 hb hq
        go_wp2
        refine wp_loop_rounds 2 ?_
        rw [rounds_succ]
        go_wp2
        rw [rounds_succ]
        go_wp2
        go_round
        case rel => exact ⟨i + 2, by go_num, by omega, HN.out⟩
        case measure => simp [iOf]; omega
      by_cases hc3 : 224 ≤ a ∧ a ≤ 239
      · obtain ⟨g1, g2⟩ := hc3
        obtain ⟨x, hx⟩ : ∃ x, x = a % 16 := ⟨_, rfl⟩
        have q0 : bits .and .u8 (a : Int) 15 = (x : Int) := by
          have q := m_lo a 4 15 (by decide) l0 (by omega)
          rw [show a % 2 ^ 4 = x by omega] at q
          exact q
        have bx : x < 16 := by omega
        by_cases hw : s.size - i < 3
        · have HF := Lib.hid (HB.out (by rw [HD.out]; exact (step3 ⟨g1, g2⟩).1 (.inl hw)))
          clear hx
          go_wp2
          go_ret
          exact ⟨ret_bool HF.out.symm, rfl⟩
        have e1 := B_at s (i + 1) (by omega)
        have l1 := B_lt s (i + 1)
        have e2 := B_at s (i + 2) (by omega)
        have l2 := B_lt s (i + 2)
        generalize B s (i + 1) = b at *
        generalize B s (i + 2) = c at *
        by_cases hb : ¬ b / 64 = 2
        · have HF := Lib.hid (HB.out (by rw [HD.out]; exact (step3 ⟨g1, g2⟩).1 (.inr (.inl hb))))
          obtain ⟨v', kb, kv⟩ : ∃ v' : Nat, bits .and .u8 (b : Int) 192 = (v' : Int) ∧ v' ≠ 128 := ⟨b / 2 ^ 6 * 2 ^ 6, m_hi b 6 192 (by decide) (by omega) l1 (by omega), by omega⟩
          have kn : ((v' : Int) != 128) = true := by simp; omega
          clear hx kv
          go_wp2
          refine wp_loop_rounds 1 ?_
          rw [rounds_succ]
          go_wp2
          go_ret
          exact ⟨ret_bool HF.out.symm, rfl⟩
        have hb : b / 64 = 2 := by omega
        have kb : bits .and .u8 (b : Int) 192 = 128 := by
          have q := m_hi b 6 192 (by decide) (by omega) l1 (by omega)
          rw [show b / 2 ^ 6 * 2 ^ 6 = 128 by omega] at q
          exact q
        obtain ⟨y, hy⟩ : ∃ y, y = b % 64 := ⟨_, rfl⟩
        have wy : y < 64 := by omega
        have q1 : bits .and .u8 (b : Int) 63 = (y : Int) := by
          have q := m_lo b 6 63 (by decide) l1 (by omega)
          rw [show b % 2 ^ 6 = y by omega] at q
          exact q
        obtain ⟨r1, hr1⟩ : ∃ r1, r1 = x * 64 + y := ⟨_, rfl⟩
        have p1 : bits .or .i32 ((x : Int) * 64) (y : Int) = (r1 : Int) := by
          have q := o_add x y 6 (by omega) (by omega)
          rw [hr1]
          exact q
        have br1 : r1 < 1024 := by omega
        by_cases hc : ¬ c / 64 = 2
        · have HF := Lib.hid (HB.out (by rw [HD.out]; exact (step3 ⟨g1, g2⟩).1 (.inr (.inr hc))))
          obtain ⟨v', kc, kv⟩ : ∃ v' : Nat, bits .and .u8 (c : Int) 192 = (v' : Int) ∧ v' ≠ 128 := ⟨c / 2 ^ 6 * 2 ^ 6, m_hi c 6 192 (by decide) (by omega) l2 (by omega), by omega⟩
          have kn : ((v' : Int) != 128) = true := by simp; omega
          clear hx kv
          go_wp2
          refine wp_loop_rounds 2 ?_
          rw [rounds_succ]
          go_wp2
          rw [rounds_succ]
          go_wp2
          go_ret
          exact ⟨ret_bool HF.out.symm, rfl⟩
        have hc : c / 64 = 2 := by omega
        have kc : bits .and .u8 (c : Int) 192 = 128 := by
          have q := m_hi c 6 192 (by decide) (by omega) l2 (by omega)
          rw [show c / 2 ^ 6 * 2 ^ 6 = 128 by omega] at q
          exact q
        obtain ⟨z, hz⟩ : ∃ z, z = c % 64 := ⟨_, rfl⟩
        have wz : z < 64 := by omega
        have q2 : bits .and .u8 (c : Int) 63 = (z : Int) := by
          have q := m_lo c 6 63 (by decide) l2 (by omega)
          rw [show c % 2 ^ 6 = z by omega] at q
          exact q
        obtain ⟨r2, hr2⟩ : ∃ r2, r2 = r1 * 64 + z := ⟨_, rfl⟩
        have p2 : bits .or .i32 ((r1 : Int) * 64) (z : Int) = (r2 : Int) := by
          have q := o_add r1 z 6 (by omega) (by omega)
          rw [hr2]
          exact q
        have br2 : r2 < 65536 := by omega
        have he : r2 = a % 16 * 4096 + b % 64 * 64 + c % 64 := by omega
        have HS := Lib.hid ((step3 (n := s.size - i) (a := a) (b := b) (c := c) (d := B s (i + 3)) ⟨g1, g2⟩).2 (by omega) hb hc)
        rw [← he] at HS
        clear hx hy hr1 hb hz hr2 hc he
        by_cases h1 : r2 < 2048
        · have HF := Lib.hid (HB.out (by rw [HD.out]; exact HS.out.1 (.inl h1)))
          go_wp2
          refine wp_loop_rounds 3 ?_
          rw [rounds_succ]
          go_wp2
          rw [rounds_succ]
          go_wp2
          rw [rounds_succ]
          go_wp2
          go_ret
          exact ⟨ret_bool HF.out.symm, rfl⟩
        by_cases h2 : 55296 ≤ r2 ∧ r2 ≤ 57343
        · have HF := Lib.hid (HB.out (by rw [HD.out]; exact HS.out.1 (.inr h2)))
          obtain ⟨h3, h4⟩ := h2
          go_wp2
          refine wp_loop_rounds 3 ?_
          rw [rounds_succ]
          go_wp2
          rw [rounds_succ]
          go_wp2
          rw [rounds_succ]
          go_wp2
          go_ret
          exact ⟨ret_bool HF.out.symm, rfl⟩
        obtain ⟨q, hq⟩ := HS.out.2 (by omega) h2
        have HN := Lib.hid ((HG q 3).out (by rw [HD.out]; exact hq) (by omega) (by omega))
        clear hq
        by_cases h3 : 55296 ≤ r2
        · have h4 : ¬ r2 ≤ 57343 := by omega
          clear h2
          go_wp2
          refine wp_loop_rounds 3 ?_
          rw [rounds_succ]
          go_wp2
          rw [rounds_succ]
          go_wp2
          rw [rounds_succ]
          go_wp2
          go_round
          case rel => exact ⟨i + 3, by go_num, by omega, HN.out⟩
          case measure => simp [iOf]; omega
        · clear h2
          go_wp2
          refine wp_loop_rounds 3 ?_
          rw [rounds_succ]
          go_wp2
          rw [rounds_succ]
          go_wp2
          rw [rounds_succ]
          go_wp2
          go_round
          case rel => exact ⟨i + 3, by go_num, by omega, HN.out⟩
          case measure => simp [iOf]; omega
      by_cases hc4 : 240 ≤ a ∧ a ≤ 244
      · obtain ⟨g1, g2⟩ := hc4
        obtain ⟨x, hx⟩ : ∃ x, x = a % 8 := ⟨_, rfl⟩
        have q0 : bits .and .u8 (a : Int) 7 = (x : Int) := by
          have q := m_lo a 3 7 (by decide) l0 (by omega)
          rw [show a % 2 ^ 3 = x by omega] at q
          exact q
        have bx : x < 8 := by omega
        by_cases hw : s.size - i < 4
        · have HF := Lib.hid (HB.out (by rw [HD.out]; exact (step4 ⟨g1, g2⟩).1 (.inl hw)))
          clear hx
          go_wp2
          go_ret
          exact ⟨ret_bool HF.out.symm, rfl⟩
        have e1 := B_at s (i + 1) (by omega)
        have l1 := B_lt s (i + 1)
        have e2 := B_at s (i + 2) (by omega)
        have l2 := B_lt s (i + 2)
        have e3 := B_at s (i + 3) (by omega)
        have l3 := B_lt s (i + 3)
        generalize B s (i + 1) = b at *
        generalize B s (i + 2) = c at *
        generalize B s (i + 3) = d at *
        by_cases hb : ¬ b / 64 = 2
        · have HF := Lib.hid (HB.out (by rw [HD.out]; exact (step4 ⟨g1, g2⟩).1 (.inr (.inl hb))))
          obtain ⟨v', kb, kv⟩ : ∃ v' : Nat, bits .and .u8 (b : Int) 192 = (v' : Int) ∧ v' ≠ 128 := ⟨b / 2 ^ 6 * 2 ^ 6, m_hi b 6 192 (by decide) (by omega) l1 (by omega), by omega⟩
          have kn : ((v' : Int) != 128) = true := by simp; omega
          clear hx kv
          go_wp2
          refine wp_loop_rounds 1 ?_
          rw [rounds_succ]
          go_wp2
          go_ret
          exact ⟨ret_bool HF.out.symm, rfl⟩
        have hb : b / 64 = 2 := by omega
        have kb : bits .and .u8 (b : Int) 192 = 128 := by
          have q := m_hi b 6 192 (by decide) (by omega) l1 (by omega)
          rw [show b / 2 ^ 6 * 2 ^ 6 = 128 by omega] at q
          exact q
        obtain ⟨y, hy⟩ : ∃ y, y = b % 64 := ⟨_, rfl⟩
        have wy : y < 64 := by omega
        have q1 : bits .and .u8 (b : Int) 63 = (y : Int) := by
          have q := m_lo b 6 63 (by decide) l1 (by omega)
          rw [show b % 2 ^ 6 = y by omega] at q
          exact q
        obtain ⟨r1, hr1⟩ : ∃ r1, r1 = x * 64 + y := ⟨_, rfl⟩
        have p1 : bits .or .i32 ((x : Int) * 64) (y : Int) = (r1 : Int) := by
          have q := o_add x y 6 (by omega) (by omega)
          rw [hr1]
          exact q
        have br1 : r1 < 512 := by omega
        by_cases hc : ¬ c / 64 = 2
        · have HF := Lib.hid (HB.out (by rw [HD.out]; exact (step4 ⟨g1, g2⟩).1 (.inr (.inr (.inl hc)))))
          obtain ⟨v', kc, kv⟩ : ∃ v' : Nat, bits .and .u8 (c : Int) 192 = (v' : Int) ∧ v' ≠ 128 := ⟨c / 2 ^ 6 * 2 ^ 6, m_hi c 6 192 (by decide) (by omega) l2 (by omega), by omega⟩
          have kn : ((v' : Int) != 128) = true := by simp; omega
          clear hx kv
          go_wp2
          refine wp_loop_rounds 2 ?_
          rw [rounds_succ]
          go_wp2
          rw [rounds_succ]
          go_wp2
          go_ret
          exact ⟨ret_bool HF.out.symm, rfl⟩
        have hc : c / 64 = 2 := by omega
        have kc : bits .and .u8 (c : Int) 192 = 128 := by
          have q := m_hi c 6 192 (by decide) (by omega) l2 (by omega)
          rw [show c / 2 ^ 6 * 2 ^ 6 = 128 by omega] at q
          exact q
        obtain ⟨z, hz⟩ : ∃ z, z = c % 64 := ⟨_, rfl⟩
        have wz : z < 64 := by omega
        have q2 : bits .and .u8 (c : Int) 63 = (z : Int) := by
          have q := m_lo c 6 63 (by decide) l2 (by omega)
          rw [show c % 2 ^ 6 = z by omega] at q
          exact q
        obtain ⟨r2, hr2⟩ : ∃ r2, r2 = r1 * 64 + z := ⟨_, rfl⟩
        have p2 : bits .or .i32 ((r1 : Int) * 64) (z : Int) = (r2 : Int) := by
          have q := o_add r1 z 6 (by omega) (by omega)
          rw [hr2]
          exact q
        have br2 : r2 < 32768 := by omega
        by_cases hd : ¬ d / 64 = 2
        · have HF := Lib.hid (HB.out (by rw [HD.out]; exact (step4 ⟨g1, g2⟩).1 (.inr (.inr (.inr hd)))))
          obtain ⟨v', kd, kv⟩ : ∃ v' : Nat, bits .and .u8 (d : Int) 192 = (v' : Int) ∧ v' ≠ 128 := ⟨d / 2 ^ 6 * 2 ^ 6, m_hi d 6 192 (by decide) (by omega) l3 (by omega), by omega⟩
          have kn : ((v' : Int) != 128) = true := by simp; omega
          clear hx kv
          go_wp2
          refine wp_loop_rounds 3 ?_
          rw [rounds_succ]
          go_wp2
          rw [rounds_succ]
          go_wp2
          rw [rounds_succ]
          go_wp2
          go_ret
          exact ⟨ret_bool HF.out.symm, rfl⟩
        have hd : d / 64 = 2 := by omega
        have kd : bits .and .u8 (d : Int) 192 = 128 := by
          have q := m_hi d 6 192 (by decide) (by omega) l3 (by omega)
          rw [show d / 2 ^ 6 * 2 ^ 6 = 128 by omega] at q
          exact q
        obtain ⟨u, hu⟩ : ∃ u, u = d % 64 := ⟨_, rfl⟩
        have wu : u < 64 := by omega
        have q3 : bits .and .u8 (d : Int) 63 = (u : Int) := by
          have q := m_lo d 6 63 (by decide) l3 (by omega)
          rw [show d % 2 ^ 6 = u by omega] at q
          exact q
        obtain ⟨r3, hr3⟩ : ∃ r3, r3 = r2 * 64 + u := ⟨_, rfl⟩
        have p3 : bits .or .i32 ((r2 : Int) * 64) (u : Int) = (r3 : Int) := by
          have q := o_add r2 u 6 (by omega) (by omega)
          rw [hr3]
          exact q
        have br3 : r3 < 2097152 := by omega
        have he : r3 = a % 8 * 262144 + b % 64 * 4096 + c % 64 * 64 + d % 64 := by omega
        have HS := Lib.hid ((step4 (n := s.size - i) (a := a) (b := b) (c := c) (d := d) ⟨g1, g2⟩).2 (by omega) hb hc hd)
        rw [← he] at HS
        clear hx hy hr1 hb hz hr2 hc hu hr3 hd he
        by_cases h1 : r3 < 65536
        · have HF := Lib.hid (HB.out (by rw [HD.out]; exact HS.out.1 (.inl h1)))
          go_wp2
          refine wp_loop_rounds 4 ?_
          rw [rounds_succ]
          go_wp2
          rw [rounds_succ]
          go_wp2
          rw [rounds_succ]
          go_wp2
          rw [rounds_succ]
          go_wp2
          go_ret
          exact ⟨ret_bool HF.out.symm, rfl⟩
        by_cases h2 : 1114111 < r3
        · have HF := Lib.hid (HB.out (by rw [HD.out]; exact HS.out.1 (.inr h2)))
          go_wp2
          refine wp_loop_rounds 4 ?_
          rw [rounds_succ]
          go_wp2
          rw [rounds_succ]
          go_wp2
          rw [rounds_succ]
          go_wp2
          rw [rounds_succ]
          go_wp2
          go_ret
          exact ⟨ret_bool HF.out.symm, rfl⟩
        obtain ⟨q, hq⟩ := HS.out.2 (by omega) (by omega)
        have HN := Lib.hid ((HG q 4).out (by rw [HD.out]; exact hq) (by omega) (by omega))
        have h3 : 55296 ≤ r3 := by omega
        have h4 : ¬ r3 ≤ 57343 := by omega
        clear hq
        go_wp2
        refine wp_loop_rounds 4 ?_
        rw [rounds_succ]
        go_wp2
        rw [rounds_succ]
        go_wp2
        rw [rounds_succ]
        go_wp2
        rw [rounds_succ]
        go_wp2
        go_round
        case rel => exact ⟨i + 4, by go_num, by omega, HN.out⟩
        case measure => simp [iOf]; omega
      · have HF := Lib.hid (HB.out (by rw [HD.out]; exact stepBad (by omega) hc2 hc3 hc4 (B_lt _ _) (B_lt _ _) (B_lt _ _) l0))
        have t1 : ¬ (194 ≤ a) ∨ ¬ (a ≤ 223) := by omega
        have t2 : ¬ (224 ≤ a) ∨ ¬ (a ≤ 239) := by omega
        have t3 : ¬ (240 ≤ a) ∨ ¬ (a ≤ 244) := by omega
        clear hc2 hc3 hc4
        by_cases h1 : a < 194
        · clear t1 t2 t3
          go_wp2
          go_ret
          exact ⟨ret_bool HF.out.symm, rfl⟩
        · have h2 : 244 < a := by omega
          clear t1 t2 t3
          go_wp2
          go_ret
          exact ⟨ret_bool HF.out.symm, rfl⟩
    · have HE := Lib.hid (hv.fin hn)
      clear hv
      go_wp2
      go_ret
      exact ⟨ret_bool HE.out.symm, rfl⟩
end Go.Proofs.YtocnfapldcjilaaDoor
