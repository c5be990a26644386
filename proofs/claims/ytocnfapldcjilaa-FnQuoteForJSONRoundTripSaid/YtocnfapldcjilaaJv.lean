/-
  Is the text valid? One code point at a place; the whole text. No condition.
-/
import Derived.Test.YtocnfapldcjilaaJs
namespace Go.Proofs.Ytocnfapldcjilaa
open Go.ChangeShapes Go.WideShapes Go.ChangeAt Go.RowKit
set_option linter.unusedVariables false

def jv : Value → Int | .int _ q => q | _ => 0
theorem nb_take (s : ByteArray) (i k : Nat) (h : i + k ≤ s.size) : ((nb s).drop i).take k = (List.range k).map (fun j => B s (i + j)) := by
  apply List.ext_getElem
  · simp [nb_len]; omega
  · intro n h1 h2
    simp only [List.getElem_take, List.getElem_drop, List.getElem_map, List.getElem_range, B_nb]
    rw [List.getD_eq_getElem?_getD, List.getElem?_eq_getElem]
    rfl
def va (s : ByteArray) (i x : Nat) : Nat → Nat
  | 0 => x
  | k + 1 => va s i x k * 64 + B s (i + (k + 1)) % 64
/-- One code point at a place. -/
def At (s : ByteArray) (i c : Nat) : Prop := Sc c ∧ i + (encN c).length ≤ s.size ∧ ((nb s).drop i).take (encN c).length = encN c
def Deco (s : ByteArray) (i : Nat) (w : World) (e : Ending) (w' : World) : Prop :=
  ((∃ r k : Nat, e = .returned (.tuple #[.int .i32 (r : Int), .int .i64 (k : Int), .bool false])) ∨
    ∃ c, At s i c ∧ e = .returned (.tuple #[.int .i32 (c : Int), .int .i64 ((encN c).length : Int), .bool true])) ∧ w = w'
theorem at1 (s : ByteArray) (i : Nat) (hi : i < s.size) (h : B s i < 128) : At s i (B s i) ∧ (encN (B s i)).length = 1 := by
  have e : encN (B s i) = [B s i] := by unfold encN; rw [if_pos h]
  refine ⟨⟨.inl (by omega), by rw [e]; simp; omega, ?_⟩, by rw [e]; rfl⟩
  rw [e, nb_take s i _ (by simp; omega)]
  rfl
theorem at2 (s : ByteArray) (i : Nat) (hi : i + 1 < s.size) (ha : 194 ≤ B s i ∧ B s i ≤ 223) (hb : B s (i + 1) / 64 = 2) (R : Nat) (hR : R = va s i (B s i - 192) 1) : (128 ≤ R ∧ At s i R) ∧ (encN R).length = 2 := by
  have h2 := B_lt s (i + 1)
  simp only [va, Nat.zero_add, Nat.reduceAdd] at hR
  have hr : 128 ≤ R ∧ R < 2048 := by omega
  have e : encN R = [B s i, B s (i + 1)] := by
    unfold encN
    rw [if_neg (by omega), if_pos (by omega)]
    congr 1
    · omega
    · congr 1; omega
  refine ⟨⟨hr.1, ⟨.inl (by omega), by rw [e]; simp; omega, ?_⟩⟩, by rw [e]; rfl⟩
  rw [e, nb_take s i _ (by simp; omega)]
  rfl
theorem at3 (s : ByteArray) (i : Nat) (hi : i + 2 < s.size) (ha : 224 ≤ B s i ∧ B s i ≤ 239) (hb : B s (i + 1) / 64 = 2) (hc : B s (i + 2) / 64 = 2) (R : Nat) (hR : R = va s i (B s i - 224) 2) (h0 : 2048 ≤ R) (h1 : ¬ (55296 ≤ R ∧ R ≤ 57343)) : At s i R ∧ (encN R).length = 3 := by
  have h2 := B_lt s (i + 1)
  have h3 := B_lt s (i + 2)
  simp only [va, Nat.zero_add, Nat.reduceAdd] at hR
  have hr : R < 65536 := by omega
  have e : encN R = [B s i, B s (i + 1), B s (i + 2)] := by
    unfold encN
    rw [if_neg (by omega), if_neg (by omega), if_pos (by omega)]
    congr 1
    · omega
    · congr 1
      · omega
      · congr 1; omega
  refine ⟨⟨by unfold Sc; omega, by rw [e]; simp; omega, ?_⟩, by rw [e]; rfl⟩
  rw [e, nb_take s i _ (by simp; omega)]
  rfl
theorem at4 (s : ByteArray) (i : Nat) (hi : i + 3 < s.size) (ha : 240 ≤ B s i ∧ B s i ≤ 244) (hb : B s (i + 1) / 64 = 2) (hc : B s (i + 2) / 64 = 2) (hd : B s (i + 3) / 64 = 2) (R : Nat) (hR : R = va s i (B s i - 240) 3) (h0 : 65536 ≤ R) (h1 : R ≤ 1114111) : At s i R ∧ (encN R).length = 4 := by
  have h2 := B_lt s (i + 1)
  have h3 := B_lt s (i + 2)
  have h4 := B_lt s (i + 3)
  simp only [va, Nat.zero_add, Nat.reduceAdd] at hR
  have e : encN R = [B s i, B s (i + 1), B s (i + 2), B s (i + 3)] := by
    unfold encN
    rw [if_neg (by omega), if_neg (by omega), if_neg (by omega)]
    congr 1
    · omega
    · congr 1
      · omega
      · congr 1
        · omega
        · congr 1; omega
  refine ⟨⟨by unfold Sc; omega, by rw [e]; simp; omega, ?_⟩, by rw [e]; rfl⟩
  rw [e, nb_take s i _ (by simp; omega)]
  rfl
def bd (j : Nat) : Nat := if j = 1 then 32 else if j = 2 then 2048 else if j = 3 then 131072 else 8388608
theorem bd_step {j R y : Nat} (h1 : 1 ≤ j) (h : j ≤ 3) (hR : R < bd j) (hy : y < 64) : R * 64 + y < bd (j + 1) := by
  unfold bd at *
  rcases (show j = 1 ∨ j = 2 ∨ j = 3 by omega) with rfl | rfl | rfl
  all_goals (simp at *; omega)
theorem bd_le (j : Nat) : bd j ≤ 8388608 := by unfold bd; split <;> (try split) <;> (try split) <;> omega
theorem bd3 {j R : Nat} (h1 : 1 ≤ j) (h : j ≤ 3) (hR : R < bd j) : R < 131072 := by
  unfold bd at hR
  rcases (show j = 1 ∨ j = 2 ∨ j = 3 by omega) with rfl | rfl | rfl
  all_goals (simp at hR; omega)
set_option maxRecDepth 10000000 in
set_option maxHeartbeats 4000000 in
theorem dec23_1 (s : ByteArray) (i : Nat) (hs : s.size ≤ 4194304) (hi : i < s.size) (ha : 194 ≤ B s i ∧ B s i ≤ 223) (w : World) : Calls Try.prog 23 #[.string s, .int .i64 i] w (Deco s i w) := by
  unfold Deco
  have HA := Lib.hid ha
  have e0 := B_at s i hi
  obtain ⟨a, hae⟩ : ∃ a, a = B s i := ⟨_, rfl⟩
  rw [← hae] at ha e0
  obtain ⟨x, hx⟩ : ∃ x, x = a - 192 := ⟨_, rfl⟩
  have q1 : bits .and .u8 (a : Int) 31 = (x : Int) := by
    have q := m_lo a 5 31 (by decide) (by omega) (by omega)
    rw [show a % 2 ^ 5 = x by omega] at q
    exact q
  have hx32 : x < 32 := by omega
  have HX := Lib.hid hx
  have HAE := Lib.hid hae
  obtain ⟨ha1, ha2⟩ := ha
  have g0 : decide ((a : Int) < 128) = false := by simp; omega
  have g0a : decide ((194 : Int) ≤ a) = true := by simp; omega
  have g0b : decide ((a : Int) ≤ 223) = true := by simp; omega
  have g1a : decide ((224 : Int) ≤ a) = false := by simp; omega
  have g2a : decide ((240 : Int) ≤ a) = false := by simp; omega
  clear hx hae ha1 ha2
  go_enter Try.func23, Try.ntmps23
  by_cases hn : i + 1 < s.size
  · go_wp2_with fail
    go_loop [9, 11] (fun r k => ∃ j R : Nat, 1 ≤ j ∧ j ≤ 2 ∧ k = .int .i64 j ∧ r = .int .i32 R ∧ R < bd j ∧ R = va s i (B s i - 192) (j - 1) ∧ (∀ m, 1 ≤ m → m < j → B s (i + m) / 64 = 2)) (fun _ k => 2 - (jv k).toNat)
    case atStart => exact ⟨1, x, by omega, by omega, rfl, rfl, hx32, by rw [HX.out, HAE.out]; rfl, fun m h1 h2 => absurd h2 (by omega)⟩
    case round =>
      obtain ⟨j, R, hj1, hj, rfl, rfl, hR, hva, hall⟩ := hrel
      have HVA := Lib.hid hva
      have HALL := Lib.hid hall
      have HRB := Lib.hid hR
      clear hva hall hR
      by_cases hlt : j ≤ 1
      · have e1 := B_at s (i + j) (by omega)
        have lb := B_lt s (i + j)
        obtain ⟨b, hbe⟩ : ∃ b, b = B s (i + j) := ⟨_, rfl⟩
        rw [← hbe] at e1 lb
        have hR3 := bd3 hj1 (by omega) HRB.out
        by_cases hb : b / 64 = 2
        · have k1 : bits .and .u8 (b : Int) 192 = 128 := by
            have q := m_hi b 6 192 (by decide) (by omega) lb (by omega)
            rw [show b / 2 ^ 6 * 2 ^ 6 = 128 by omega] at q
            exact q
          obtain ⟨y, hy⟩ : ∃ y, y = b % 64 := ⟨_, rfl⟩
          have q2 : bits .and .u8 (b : Int) 63 = (y : Int) := by
            have q := m_lo b 6 63 (by decide) lb (by omega)
            rw [show b % 2 ^ 6 = y by omega] at q
            exact q
          have hy64 : y < 64 := by omega
          obtain ⟨z, hz⟩ : ∃ z, z = R * 64 + y := ⟨_, rfl⟩
          have q3 : bits .or .i32 ((R : Int) * 64) (y : Int) = (z : Int) := by
            have q := o_add R y 6 (by omega) (by omega)
            rw [hz]
            exact q
          have HZB : Hid (z < bd (j + 1)) := Lib.hid (by rw [hz]; exact bd_step hj1 (by omega) HRB.out hy64)
          have HZV : Hid (z = va s i (B s i - 192) (j + 1 - 1)) := Lib.hid (by
            rw [hz, hy, hbe, HVA.out]
            obtain ⟨n, rfl⟩ : ∃ n, j = n + 1 := ⟨j - 1, by omega⟩
            rfl)
          have HALL2 : Hid (∀ m, 1 ≤ m → m < j + 1 → B s (i + m) / 64 = 2) := Lib.hid (fun m h1 h2 => by
            by_cases e : m = j
            · rw [e, ← hbe]; exact hb
            · exact HALL.out m h1 (by omega))
          clear hz hy hbe hb
          go_wp2_with fail
          go_round
          case rel => exact ⟨j + 1, z, by omega, by omega, by go_num, rfl, HZB.out, HZV.out, HALL2.out⟩
          case measure => simp [jv]; omega
        · obtain ⟨v, k1, kv⟩ : ∃ v : Nat, bits .and .u8 (b : Int) 192 = (v : Int) ∧ v ≠ 128 := ⟨b / 2 ^ 6 * 2 ^ 6, m_hi b 6 192 (by decide) (by omega) lb (by omega), by omega⟩
          have kn : ((v : Int) != 128) = true := by simp; omega
          clear kv hb hbe
          go_wp2_with fail
          go_ret3
          exact ⟨.inl ⟨0, 1, rfl⟩, rfl⟩
      · have hje : j = 2 := by omega
        subst hje
        have hRb := HRB.out
        rw [show bd 2 = 2048 from rfl] at hRb
        by_cases hl : R < 128
        · clear HVA HALL
          go_wp2_with fail
          go_ret3
          exact ⟨.inl ⟨0, 1, rfl⟩, rfl⟩
        · obtain ⟨⟨h128, hat⟩, hlen⟩ := at2 s i hn HA.out (HALL.out 1 (by omega) (by omega)) R HVA.out
          have HAT := Lib.hid hat
          have HLEN := Lib.hid hlen
          clear hat hlen
          have hR2 : R < 55296 := by omega
          go_wp2_with fail
          go_ret3
          exact ⟨.inr ⟨R, HAT.out, by rw [HLEN.out]; rfl⟩, rfl⟩
  · go_wp2_with fail
    go_ret3
    exact ⟨.inl ⟨0, 1, rfl⟩, rfl⟩
set_option maxRecDepth 10000000 in
set_option maxHeartbeats 4000000 in
theorem dec23_2 (s : ByteArray) (i : Nat) (hs : s.size ≤ 4194304) (hi : i < s.size) (ha : 224 ≤ B s i ∧ B s i ≤ 239) (w : World) : Calls Try.prog 23 #[.string s, .int .i64 i] w (Deco s i w) := by
  unfold Deco
  have HA := Lib.hid ha
  have e0 := B_at s i hi
  obtain ⟨a, hae⟩ : ∃ a, a = B s i := ⟨_, rfl⟩
  rw [← hae] at ha e0
  obtain ⟨x, hx⟩ : ∃ x, x = a - 224 := ⟨_, rfl⟩
  have q1 : bits .and .u8 (a : Int) 15 = (x : Int) := by
    have q := m_lo a 4 15 (by decide) (by omega) (by omega)
    rw [show a % 2 ^ 4 = x by omega] at q
    exact q
  have hx32 : x < 32 := by omega
  have HX := Lib.hid hx
  have HAE := Lib.hid hae
  obtain ⟨ha1, ha2⟩ := ha
  have g0 : decide ((a : Int) < 128) = false := by simp; omega
  have g0a : decide ((194 : Int) ≤ a) = true := by simp; omega
  have g0b : decide ((a : Int) ≤ 223) = false := by simp; omega
  have g1a : decide ((224 : Int) ≤ a) = true := by simp; omega
  have g1b : decide ((a : Int) ≤ 239) = true := by simp; omega
  have g2a : decide ((240 : Int) ≤ a) = false := by simp; omega
  clear hx hae ha1 ha2
  go_enter Try.func23, Try.ntmps23
  by_cases hn : i + 2 < s.size
  · go_wp2_with fail
    go_loop [9, 11] (fun r k => ∃ j R : Nat, 1 ≤ j ∧ j ≤ 3 ∧ k = .int .i64 j ∧ r = .int .i32 R ∧ R < bd j ∧ R = va s i (B s i - 224) (j - 1) ∧ (∀ m, 1 ≤ m → m < j → B s (i + m) / 64 = 2)) (fun _ k => 3 - (jv k).toNat)
    case atStart => exact ⟨1, x, by omega, by omega, rfl, rfl, hx32, by rw [HX.out, HAE.out]; rfl, fun m h1 h2 => absurd h2 (by omega)⟩
    case round =>
      obtain ⟨j, R, hj1, hj, rfl, rfl, hR, hva, hall⟩ := hrel
      have HVA := Lib.hid hva
      have HALL := Lib.hid hall
      have HRB := Lib.hid hR
      clear hva hall hR
      by_cases hlt : j ≤ 2
      · have e1 := B_at s (i + j) (by omega)
        have lb := B_lt s (i + j)
        obtain ⟨b, hbe⟩ : ∃ b, b = B s (i + j) := ⟨_, rfl⟩
        rw [← hbe] at e1 lb
        have hR3 := bd3 hj1 (by omega) HRB.out
        by_cases hb : b / 64 = 2
        · have k1 : bits .and .u8 (b : Int) 192 = 128 := by
            have q := m_hi b 6 192 (by decide) (by omega) lb (by omega)
            rw [show b / 2 ^ 6 * 2 ^ 6 = 128 by omega] at q
            exact q
          obtain ⟨y, hy⟩ : ∃ y, y = b % 64 := ⟨_, rfl⟩
          have q2 : bits .and .u8 (b : Int) 63 = (y : Int) := by
            have q := m_lo b 6 63 (by decide) lb (by omega)
            rw [show b % 2 ^ 6 = y by omega] at q
            exact q
          have hy64 : y < 64 := by omega
          obtain ⟨z, hz⟩ : ∃ z, z = R * 64 + y := ⟨_, rfl⟩
          have q3 : bits .or .i32 ((R : Int) * 64) (y : Int) = (z : Int) := by
            have q := o_add R y 6 (by omega) (by omega)
            rw [hz]
            exact q
          have HZB : Hid (z < bd (j + 1)) := Lib.hid (by rw [hz]; exact bd_step hj1 (by omega) HRB.out hy64)
          have HZV : Hid (z = va s i (B s i - 224) (j + 1 - 1)) := Lib.hid (by
            rw [hz, hy, hbe, HVA.out]
            obtain ⟨n, rfl⟩ : ∃ n, j = n + 1 := ⟨j - 1, by omega⟩
            rfl)
          have HALL2 : Hid (∀ m, 1 ≤ m → m < j + 1 → B s (i + m) / 64 = 2) := Lib.hid (fun m h1 h2 => by
            by_cases e : m = j
            · rw [e, ← hbe]; exact hb
            · exact HALL.out m h1 (by omega))
          clear hz hy hbe hb
          go_wp2_with fail
          go_round
          case rel => exact ⟨j + 1, z, by omega, by omega, by go_num, rfl, HZB.out, HZV.out, HALL2.out⟩
          case measure => simp [jv]; omega
        · obtain ⟨v, k1, kv⟩ : ∃ v : Nat, bits .and .u8 (b : Int) 192 = (v : Int) ∧ v ≠ 128 := ⟨b / 2 ^ 6 * 2 ^ 6, m_hi b 6 192 (by decide) (by omega) lb (by omega), by omega⟩
          have kn : ((v : Int) != 128) = true := by simp; omega
          clear kv hb hbe
          go_wp2_with fail
          go_ret3
          exact ⟨.inl ⟨0, 1, rfl⟩, rfl⟩
      · have hje : j = 3 := by omega
        subst hje
        have hRb := HRB.out
        rw [show bd 3 = 131072 from rfl] at hRb
        by_cases hl : R < 2048
        · clear HVA HALL
          go_wp2_with fail
          go_ret3
          exact ⟨.inl ⟨0, 1, rfl⟩, rfl⟩
        · have hR2 : R ≤ 1114111 := by omega
          by_cases hsur : 55296 ≤ R ∧ R ≤ 57343
          · obtain ⟨s1, s2⟩ := hsur
            go_wp2_with fail
            go_ret3
            exact ⟨.inl ⟨0, 1, rfl⟩, rfl⟩
          · obtain ⟨hat, hlen⟩ := at3 s i hn HA.out (HALL.out 1 (by omega) (by omega)) (HALL.out 2 (by omega) (by omega)) R HVA.out (by omega) hsur
            have HAT := Lib.hid hat
            have HLEN := Lib.hid hlen
            clear hat hlen
            by_cases s1 : 55296 ≤ R
            · have s2 : 57343 < R := by omega
              clear hsur
              go_wp2_with fail
              go_ret3
              exact ⟨.inr ⟨R, HAT.out, by rw [HLEN.out]; rfl⟩, rfl⟩
            · clear hsur
              go_wp2_with fail
              go_ret3
              exact ⟨.inr ⟨R, HAT.out, by rw [HLEN.out]; rfl⟩, rfl⟩
  · go_wp2_with fail
    go_ret3
    exact ⟨.inl ⟨0, 1, rfl⟩, rfl⟩
set_option maxRecDepth 10000000 in
set_option maxHeartbeats 4000000 in
theorem dec23_3 (s : ByteArray) (i : Nat) (hs : s.size ≤ 4194304) (hi : i < s.size) (ha : 240 ≤ B s i ∧ B s i ≤ 244) (w : World) : Calls Try.prog 23 #[.string s, .int .i64 i] w (Deco s i w) := by
  unfold Deco
  have HA := Lib.hid ha
  have e0 := B_at s i hi
  obtain ⟨a, hae⟩ : ∃ a, a = B s i := ⟨_, rfl⟩
  rw [← hae] at ha e0
  obtain ⟨x, hx⟩ : ∃ x, x = a - 240 := ⟨_, rfl⟩
  have q1 : bits .and .u8 (a : Int) 7 = (x : Int) := by
    have q := m_lo a 3 7 (by decide) (by omega) (by omega)
    rw [show a % 2 ^ 3 = x by omega] at q
    exact q
  have hx32 : x < 32 := by omega
  have HX := Lib.hid hx
  have HAE := Lib.hid hae
  obtain ⟨ha1, ha2⟩ := ha
  have g0 : decide ((a : Int) < 128) = false := by simp; omega
  have g0a : decide ((194 : Int) ≤ a) = true := by simp; omega
  have g0b : decide ((a : Int) ≤ 223) = false := by simp; omega
  have g1a : decide ((224 : Int) ≤ a) = true := by simp; omega
  have g1b : decide ((a : Int) ≤ 239) = false := by simp; omega
  have g2a : decide ((240 : Int) ≤ a) = true := by simp; omega
  have g2b : decide ((a : Int) ≤ 244) = true := by simp; omega
  clear hx hae ha1 ha2
  go_enter Try.func23, Try.ntmps23
  by_cases hn : i + 3 < s.size
  · go_wp2_with fail
    go_loop [9, 11] (fun r k => ∃ j R : Nat, 1 ≤ j ∧ j ≤ 4 ∧ k = .int .i64 j ∧ r = .int .i32 R ∧ R < bd j ∧ R = va s i (B s i - 240) (j - 1) ∧ (∀ m, 1 ≤ m → m < j → B s (i + m) / 64 = 2)) (fun _ k => 4 - (jv k).toNat)
    case atStart => exact ⟨1, x, by omega, by omega, rfl, rfl, hx32, by rw [HX.out, HAE.out]; rfl, fun m h1 h2 => absurd h2 (by omega)⟩
    case round =>
      obtain ⟨j, R, hj1, hj, rfl, rfl, hR, hva, hall⟩ := hrel
      have HVA := Lib.hid hva
      have HALL := Lib.hid hall
      have HRB := Lib.hid hR
      clear hva hall hR
      by_cases hlt : j ≤ 3
      · have e1 := B_at s (i + j) (by omega)
        have lb := B_lt s (i + j)
        obtain ⟨b, hbe⟩ : ∃ b, b = B s (i + j) := ⟨_, rfl⟩
        rw [← hbe] at e1 lb
        have hR3 := bd3 hj1 (by omega) HRB.out
        by_cases hb : b / 64 = 2
        · have k1 : bits .and .u8 (b : Int) 192 = 128 := by
            have q := m_hi b 6 192 (by decide) (by omega) lb (by omega)
            rw [show b / 2 ^ 6 * 2 ^ 6 = 128 by omega] at q
            exact q
          obtain ⟨y, hy⟩ : ∃ y, y = b % 64 := ⟨_, rfl⟩
          have q2 : bits .and .u8 (b : Int) 63 = (y : Int) := by
            have q := m_lo b 6 63 (by decide) lb (by omega)
            rw [show b % 2 ^ 6 = y by omega] at q
            exact q
          have hy64 : y < 64 := by omega
          obtain ⟨z, hz⟩ : ∃ z, z = R * 64 + y := ⟨_, rfl⟩
          have q3 : bits .or .i32 ((R : Int) * 64) (y : Int) = (z : Int) := by
            have q := o_add R y 6 (by omega) (by omega)
            rw [hz]
            exact q
          have HZB : Hid (z < bd (j + 1)) := Lib.hid (by rw [hz]; exact bd_step hj1 (by omega) HRB.out hy64)
          have HZV : Hid (z = va s i (B s i - 240) (j + 1 - 1)) := Lib.hid (by
            rw [hz, hy, hbe, HVA.out]
            obtain ⟨n, rfl⟩ : ∃ n, j = n + 1 := ⟨j - 1, by omega⟩
            rfl)
          have HALL2 : Hid (∀ m, 1 ≤ m → m < j + 1 → B s (i + m) / 64 = 2) := Lib.hid (fun m h1 h2 => by
            by_cases e : m = j
            · rw [e, ← hbe]; exact hb
            · exact HALL.out m h1 (by omega))
          clear hz hy hbe hb
          go_wp2_with fail
          go_round
          case rel => exact ⟨j + 1, z, by omega, by omega, by go_num, rfl, HZB.out, HZV.out, HALL2.out⟩
          case measure => simp [jv]; omega
        · obtain ⟨v, k1, kv⟩ : ∃ v : Nat, bits .and .u8 (b : Int) 192 = (v : Int) ∧ v ≠ 128 := ⟨b / 2 ^ 6 * 2 ^ 6, m_hi b 6 192 (by decide) (by omega) lb (by omega), by omega⟩
          have kn : ((v : Int) != 128) = true := by simp; omega
          clear kv hb hbe
          go_wp2_with fail
          go_ret3
          exact ⟨.inl ⟨0, 1, rfl⟩, rfl⟩
      · have hje : j = 4 := by omega
        subst hje
        have hRb := HRB.out
        rw [show bd 4 = 8388608 from rfl] at hRb
        by_cases hl : R < 65536
        · clear HVA HALL
          go_wp2_with fail
          go_ret3
          exact ⟨.inl ⟨0, 1, rfl⟩, rfl⟩
        · by_cases h11 : R ≤ 1114111
          · obtain ⟨hat, hlen⟩ := at4 s i hn HA.out (HALL.out 1 (by omega) (by omega)) (HALL.out 2 (by omega) (by omega)) (HALL.out 3 (by omega) (by omega)) R HVA.out (by omega) h11
            have HAT := Lib.hid hat
            have HLEN := Lib.hid hlen
            clear hat hlen
            have s1 : 55296 ≤ R := by omega
            have s2 : 57343 < R := by omega
            go_wp2_with fail
            go_ret3
            exact ⟨.inr ⟨R, HAT.out, by rw [HLEN.out]; rfl⟩, rfl⟩
          · go_wp2_with fail
            go_ret3
            exact ⟨.inl ⟨0, 1, rfl⟩, rfl⟩
  · go_wp2_with fail
    go_ret3
    exact ⟨.inl ⟨0, 1, rfl⟩, rfl⟩
set_option maxRecDepth 100000 in
set_option maxHeartbeats 4000000 in
theorem dec23 (s : ByteArray) (i : Nat) (hs : s.size ≤ 4194304) (hi : i < s.size) (w : World) : Calls Try.prog 23 #[.string s, .int .i64 i] w (Deco s i w) := by
  have l0 := B_lt s i
  by_cases h1 : B s i < 128
  · obtain ⟨hat, hlen⟩ := at1 s i hi h1
    unfold Deco
    have HAT := Lib.hid hat
    have HLEN := Lib.hid hlen
    have e0 := B_at s i hi
    obtain ⟨a, hae⟩ : ∃ a, a = B s i := ⟨_, rfl⟩
    rw [← hae] at e0 HAT HLEN h1
    clear hat hlen hae
    go_enter Try.func23, Try.ntmps23
    go_wp2_with fail
    go_ret3
    exact ⟨.inr ⟨a, HAT.out, by rw [HLEN.out]; rfl⟩, rfl⟩
  by_cases h2 : 194 ≤ B s i ∧ B s i ≤ 223
  · exact dec23_1 s i hs hi h2 w
  by_cases h3 : 224 ≤ B s i ∧ B s i ≤ 239
  · exact dec23_2 s i hs hi h3 w
  by_cases h4 : 240 ≤ B s i ∧ B s i ≤ 244
  · exact dec23_3 s i hs hi h4 w
  have e0 := B_at s i hi
  unfold Deco
  generalize B s i = a at *
  go_enter Try.func23, Try.ntmps23
  rcases (show (128 ≤ a ∧ a < 194) ∨ 244 < a by omega) with ⟨p1, p2⟩ | p
  · clear h2 h3 h4
    go_wp2_with fail
    go_ret3
    exact ⟨.inl ⟨0, 1, rfl⟩, rfl⟩
  · clear h2 h3 h4
    go_wp2_with fail
    go_ret3
    exact ⟨.inl ⟨0, 1, rfl⟩, rfl⟩
theorem dec23m (s : ByteArray) (i : Nat) (hs : s.size ≤ 4194304) (hi : i < s.size) (w : World) : Calls Try.prog 23 #[.string s, .int .i64 i] w fun e w' =>
    ((∃ r k : Nat, e = .returned (.tuple #[.int .i32 (r : Int), .int .i64 (k : Int), .bool false])) ∨
    ∃ c m, Hid (At s i c) ∧ Hid ((encN c).length = m) ∧ 1 ≤ m ∧ m ≤ 4 ∧ i + m ≤ s.size ∧ e = .returned (.tuple #[.int .i32 (c : Int), .int .i64 (m : Int), .bool true])) ∧ w = w' := by
  refine (dec23 s i hs hi w).mono ?_
  rintro e w' ⟨h | ⟨c, h, rfl⟩, rfl⟩
  · exact ⟨.inl h, rfl⟩
  · exact ⟨.inr ⟨c, _, Lib.hid h, Lib.hid rfl, (encN_len c).1, (encN_len c).2, h.2.1, rfl⟩, rfl⟩
set_option maxRecDepth 100000 in
set_option maxHeartbeats 4000000 in
theorem valid15 (s : ByteArray) (hs : s.size ≤ 4194304) (w : World) :
    Calls Try.prog 15 #[.string s] w fun e w' => (e = .returned (.bool false) ∨ (e = .returned (.bool true) ∧ ∃ cs, Pts s cs)) ∧ w = w' := by
  go_enter Try.func15, Try.ntmps15
  go_wp2_with fail
  go_loop [3] (fun i => ∃ (k : Nat) (cs : List Nat), i = .int .i64 k ∧ k ≤ s.size ∧ (∀ c ∈ cs, Sc c) ∧ (nb s).take k = cs.flatMap encN) (fun i => s.size - (jv i).toNat)
  case atStart => exact ⟨0, [], rfl, Nat.zero_le _, fun c h => absurd h (by simp), rfl⟩
  case round =>
    obtain ⟨k, cs, rfl, hk, hsc, htk⟩ := hrel
    have HSC := Lib.hid hsc
    have HTK := Lib.hid htk
    clear hsc htk
    by_cases hlt : k < s.size
    · have H23 := Lib.hid (dec23m s k hs hlt w)
      go_wp2_with (go_at_call 23; (with_reducible refine (H23.out).mono ?_); rintro _ _ ⟨⟨rr, rk, rfl⟩ | ⟨c, m, HAT, HM, hm1, hm4, hle, rfl⟩, rfl⟩)
      · go_ret
        exact ⟨.inl rfl, rfl⟩
      · go_round
        case rel =>
          refine ⟨k + m, cs ++ [c], by go_num, hle, fun d hd => ?_, ?_⟩
          · rw [List.mem_append, List.mem_singleton] at hd
            rcases hd with hd | rfl
            · exact HSC.out d hd
            · exact HAT.out.1
          · have ht := HAT.out.2.2
            rw [HM.out] at ht
            rw [List.take_add, HTK.out, ht]
            simp
        case measure => simp [jv]; omega
    · have : k = s.size := by omega
      subst this
      have HP : Hid (Pts s cs) := Lib.hid ⟨HSC.out, by rw [← HTK.out, List.take_of_length_le (by rw [nb_len]; exact Nat.le_refl _)]⟩
      go_wp2_with fail
      go_ret
      exact ⟨.inr ⟨rfl, cs, HP.out⟩, rfl⟩
end Go.Proofs.Ytocnfapldcjilaa
