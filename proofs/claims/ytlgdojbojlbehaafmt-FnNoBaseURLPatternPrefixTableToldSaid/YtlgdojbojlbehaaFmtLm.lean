/-
  The law's model. No condition.
-/
import Derived.Test.YtlgdojbojlbehaaFmtLx
namespace Go.Proofs.YtlgdojbojlbehaaFmt
open Go.ChangeShapes Go.WideShapes Go.ChangeAt Go.RowKit
set_option linter.unusedVariables false

theorem b46 (a : UInt8) : (a == 46) = (a.toNat == 46) := by rw [Bool.eq_iff_iff]; simp [← UInt8.toNat_inj]
theorem i46 (y : Nat) : ((y : Int) == 46) = (y == 46) := by rw [Bool.eq_iff_iff]; simp; omega
theorem i58 (y : Nat) : ((y : Int) == 58) = (y == 58) := by rw [Bool.eq_iff_iff]; simp; omega
theorem str0 (t : ByteArray) (h : t.size ≠ 1) : (t.toList == [46]) = false := by
  rw [ByteArray.toList_eq]
  have : t.data.toList.length = t.size := by simp
  cases hb : (t.data.toList == [46]) with
  | false => rfl
  | true =>
    have e : t.data.toList = [46] := by simpa using hb
    rw [e] at this
    exact absurd this.symm h
theorem str00 (t : ByteArray) (h : t.size ≠ 2) : (t.toList == [46, 46]) = false := by
  rw [ByteArray.toList_eq]
  have : t.data.toList.length = t.size := by simp
  cases hb : (t.data.toList == [46, 46]) with
  | false => rfl
  | true =>
    have e : t.data.toList = [46, 46] := by simpa using hb
    rw [e] at this
    exact absurd this.symm h
theorem str1 (t : ByteArray) (h : t.size = 1) (l0 : 0 < t.size) : (t.toList == [46]) = (t[0].toNat == 46) := by
  rw [ByteArray.toList_eq]
  obtain ⟨⟨l⟩⟩ := t
  match l, h, l0 with
  | [a], _, _ =>
    have e : ([a] == [46]) = (a == 46) := by rw [Bool.eq_iff_iff]; simp
    show ([a] == [46]) = (a.toNat == 46)
    rw [e, b46]
theorem str2 (t : ByteArray) (h : t.size = 2) (l0 : 0 < t.size) (l1 : 1 < t.size) : (t.toList == [46, 46]) = (t[0].toNat == 46 && t[1].toNat == 46) := by
  rw [ByteArray.toList_eq]
  obtain ⟨⟨l⟩⟩ := t
  match l, h, l0, l1 with
  | [a, b], _, _, _ =>
    have e : ([a, b] == [46, 46]) = (a == 46 && b == 46) := by rw [Bool.eq_iff_iff]; simp
    show ([a, b] == [46, 46]) = (a.toNat == 46 && b.toNat == 46)
    rw [e, b46, b46]
set_option maxRecDepth 100000 in
theorem sep9 (c : Nat) (w : World) : Calls Tryf.prog 9 #[.int .u8 c] w fun e w' => e = .returned (.bool (sl c)) ∧ w = w' := by
  by_cases h1 : c = 47
  · subst h1
    go_enter Tryf.func9, Tryf.ntmps9
    go_wp2
    go_ret
    exact ⟨rfl, rfl⟩
  · have g1 : ((c : Int) == 47) = false := by simp; omega
    by_cases h2 : c = 92
    · subst h2
      go_enter Tryf.func9, Tryf.ntmps9
      go_wp2
      go_ret
      exact ⟨rfl, rfl⟩
    · have g2 : ((c : Int) == 92) = false := by simp; omega
      rw [sl_ne h1 h2]
      clear h1 h2
      go_enter Tryf.func9, Tryf.ntmps9
      go_wp2
      go_ret
      exact ⟨rfl, rfl⟩
set_option maxRecDepth 100000 in
theorem letter10 (c : Nat) (w : World) : Calls Tryf.prog 10 #[.int .u8 c] w fun e w' => e = .returned (.bool (lt c)) ∧ w = w' := by
  by_cases ha : 97 ≤ c
  · have i1 : (97 : Int) ≤ (c : Int) := by omega
    by_cases hb : c ≤ 122
    · have i2 : (c : Int) ≤ 122 := by omega
      have e : lt c = true := by simp [lt, ha, hb]
      rw [e]
      clear e ha hb
      go_enter Tryf.func10, Tryf.ntmps10
      go_wp2
      go_ret
      exact ⟨rfl, rfl⟩
    · have i2 : ¬ (c : Int) ≤ 122 := by omega
      have i3 : (65 : Int) ≤ (c : Int) := by omega
      have i4 : ¬ (c : Int) ≤ 90 := by omega
      have e : lt c = false := by simp [lt, hb]; omega
      rw [e]
      clear e ha hb
      go_enter Tryf.func10, Tryf.ntmps10
      go_wp2
      go_ret
      exact ⟨rfl, rfl⟩
  · have i1 : ¬ (97 : Int) ≤ (c : Int) := by omega
    by_cases hc : 65 ≤ c
    · have i3 : (65 : Int) ≤ (c : Int) := by omega
      by_cases hd : c ≤ 90
      · have i4 : (c : Int) ≤ 90 := by omega
        have e : lt c = true := by simp [lt, hc, hd]
        rw [e]
        clear e ha hc hd
        go_enter Tryf.func10, Tryf.ntmps10
        go_wp2
        go_ret
        exact ⟨rfl, rfl⟩
      · have i4 : ¬ (c : Int) ≤ 90 := by omega
        have e : lt c = false := by simp [lt, ha, hd]
        rw [e]
        clear e ha hc hd
        go_enter Tryf.func10, Tryf.ntmps10
        go_wp2
        go_ret
        exact ⟨rfl, rfl⟩
    · have i3 : ¬ (65 : Int) ≤ (c : Int) := by omega
      have e : lt c = false := by simp [lt, ha, hc]
      rw [e]
      clear e ha hc
      go_enter Tryf.func10, Tryf.ntmps10
      go_wp2
      go_ret
      exact ⟨rfl, rfl⟩
theorem sl0 : sl 0 = false := rfl
theorem sl46 : sl 46 = false := rfl
theorem lt46 : lt 46 = false := rfl
set_option maxRecDepth 100000 in
set_option maxHeartbeats 16000000 in
theorem model6 (t : ByteArray) (w : World) : Calls Tryf.prog 6 #[.string t] w fun e w' => e = .returned (.bool (acc t.size (cB t 0) (cB t 1) (cB t 2))) ∧ w = w' := by
  by_cases h0 : t.size = 0
  · have e : acc t.size (cB t 0) (cB t 1) (cB t 2) = false := by
      have a0 : cB t 0 = 0 := by simp [cB, h0]
      have a1 : cB t 1 = 0 := by simp [cB, h0]
      have a2 : cB t 2 = 0 := by simp [cB, h0]
      rw [a0, a1, a2, h0]; rfl
    rw [e]
    have s1 := str0 t (by omega)
    have s2 := str00 t (by omega)
    have n1 : ¬ (1 : Int) ≤ (t.size : Int) := by omega
    have n2 : ¬ (2 : Int) ≤ (t.size : Int) := by omega
    have n3 : ¬ (3 : Int) ≤ (t.size : Int) := by omega
    clear e h0
    go_enter Tryf.func6, Tryf.ntmps6
    go_wp2_with fail
    go_ret
    exact ⟨rfl, rfl⟩
  · have l0 : 0 < t.size := by omega
    by_cases h1 : t.size = 1
    · have e : acc t.size (cB t 0) (cB t 1) (cB t 2) = ((t[0].toNat == 46) || sl t[0].toNat) := by
        have a0 : cB t 0 = t[0].toNat := by simp [cB, l0]
        have a1 : cB t 1 = 0 := by simp [cB, h1]
        have a2 : cB t 2 = 0 := by simp [cB, h1]
        rw [a0, a1, a2, h1]; simp [acc, p1, p2, p4, sl0]
      rw [e]
      have s1 := str1 t h1 l0
      have s2 := str00 t (by omega)
      have n1 : (1 : Int) ≤ (t.size : Int) := by omega
      have n2 : ¬ (2 : Int) ≤ (t.size : Int) := by omega
      have n3 : ¬ (3 : Int) ≤ (t.size : Int) := by omega
      have H0 := fun W => Lib.hid (sep9 t[0].toNat W)
      clear e h0 h1
      generalize hs : sl t[0].toNat = v0 at *
      clear hs
      generalize hq : (t[0].toNat == 46) = q0 at *
      clear hq
      cases q0 <;> cases v0
      all_goals
        go_enter Tryf.func6, Tryf.ntmps6
        go_wp2_with (go_at_call 9; (with_reducible refine (H0 _).out.mono ?_); rintro _ _ ⟨rfl, rfl⟩)
        go_ret
        exact ⟨by simp, rfl⟩
    · have l1 : 1 < t.size := by omega
      by_cases h2 : t.size = 2
      · have e : acc t.size (cB t 0) (cB t 1) (cB t 2) = (((t[0].toNat == 46) && (t[1].toNat == 46)) || ((t[0].toNat == 46) && sl t[1].toNat) || sl t[0].toNat) := by
          have a0 : cB t 0 = t[0].toNat := by simp [cB, l0]
          have a1 : cB t 1 = t[1].toNat := by simp [cB, l1]
          have a2 : cB t 2 = 0 := by simp [cB, h2]
          rw [a0, a1, a2, h2]; simp [acc, p1, p2, p4, sl0]
        rw [e]
        have s1 := str0 t (by omega)
        have s2 := str2 t h2 l0 l1
        have n1 : (1 : Int) ≤ (t.size : Int) := by omega
        have n2 : (2 : Int) ≤ (t.size : Int) := by omega
        have n3 : ¬ (3 : Int) ≤ (t.size : Int) := by omega
        have m0 := i46 t[0].toNat
        have H0 := fun W => Lib.hid (sep9 t[0].toNat W)
        have H1 := fun W => Lib.hid (sep9 t[1].toNat W)
        clear e h0 h1 h2
        generalize hs : sl t[0].toNat = v0 at *
        clear hs
        generalize hs : sl t[1].toNat = v1 at *
        clear hs
        generalize hq : (t[0].toNat == 46) = q0 at *
        clear hq
        generalize hq : (t[1].toNat == 46) = q1 at *
        clear hq
        cases q0 <;> cases q1 <;> cases v0 <;> cases v1
        all_goals
          go_enter Tryf.func6, Tryf.ntmps6
          go_wp2_with (first | (go_at_call 9; (with_reducible refine (H0 _).out.mono ?_); rintro _ _ ⟨rfl, rfl⟩) | (go_at_call 9; (with_reducible refine (H1 _).out.mono ?_); rintro _ _ ⟨rfl, rfl⟩))
          go_ret
          exact ⟨by simp, rfl⟩
      · have l2 : 2 < t.size := by omega
        have e : acc t.size (cB t 0) (cB t 1) (cB t 2) = (((t[0].toNat == 46) && (sl t[1].toNat || ((t[1].toNat == 46) && sl t[2].toNat))) || sl t[0].toNat || (lt t[0].toNat && (t[1].toNat == 58) && sl t[2].toNat)) := by
          have a0 : cB t 0 = t[0].toNat := by simp [cB, l0]
          have a1 : cB t 1 = t[1].toNat := by simp [cB, l1]
          have a2 : cB t 2 = t[2].toNat := by simp [cB, l2]
          have z1 : (t.size == 1) = false := by simp [h1]
          have z2 : (t.size == 2) = false := by simp [h2]
          rw [a0, a1, a2]; simp [acc, p1, p2, p4, z1, z2]
        rw [e]
        have s1 := str0 t (by omega)
        have s2 := str00 t (by omega)
        have n1 : (1 : Int) ≤ (t.size : Int) := by omega
        have n2 : (2 : Int) ≤ (t.size : Int) := by omega
        have n3 : (3 : Int) ≤ (t.size : Int) := by omega
        have m0 := i46 t[0].toNat
        have m1 := i46 t[1].toNat
        have m2 := i58 t[1].toNat
        have H0 := fun W => Lib.hid (sep9 t[0].toNat W)
        have H1 := fun W => Lib.hid (sep9 t[1].toNat W)
        have H2 := fun W => Lib.hid (sep9 t[2].toNat W)
        have HT := fun W => Lib.hid (letter10 t[0].toNat W)
        clear e h0 h1 h2
        generalize hs : sl t[0].toNat = v0 at *
        clear hs
        generalize hs : sl t[1].toNat = v1 at *
        clear hs
        generalize hs : sl t[2].toNat = v2 at *
        clear hs
        generalize hs : lt t[0].toNat = vl at *
        clear hs
        generalize hq : (t[0].toNat == 46) = q0 at *
        clear hq
        generalize hq : (t[1].toNat == 46) = q1 at *
        clear hq
        generalize hq : (t[1].toNat == 58) = q2 at *
        clear hq
        cases q0 with
        | true =>
          cases v1 with
          | true =>
            go_enter Tryf.func6, Tryf.ntmps6
            go_wp2_with (first | (go_at_call 9; (with_reducible refine (H0 _).out.mono ?_); rintro _ _ ⟨rfl, rfl⟩) | (go_at_call 9; (with_reducible refine (H1 _).out.mono ?_); rintro _ _ ⟨rfl, rfl⟩) | (go_at_call 9; (with_reducible refine (H2 _).out.mono ?_); rintro _ _ ⟨rfl, rfl⟩) | (go_at_call 10; (with_reducible refine (HT _).out.mono ?_); rintro _ _ ⟨rfl, rfl⟩))
            go_ret
            exact ⟨by simp, rfl⟩
          | false =>
            cases q1 with
            | true =>
              cases v2 with
              | true =>
                go_enter Tryf.func6, Tryf.ntmps6
                go_wp2_with (first | (go_at_call 9; (with_reducible refine (H0 _).out.mono ?_); rintro _ _ ⟨rfl, rfl⟩) | (go_at_call 9; (with_reducible refine (H1 _).out.mono ?_); rintro _ _ ⟨rfl, rfl⟩) | (go_at_call 9; (with_reducible refine (H2 _).out.mono ?_); rintro _ _ ⟨rfl, rfl⟩) | (go_at_call 10; (with_reducible refine (HT _).out.mono ?_); rintro _ _ ⟨rfl, rfl⟩))
                go_ret
                exact ⟨by simp, rfl⟩
              | false =>
                cases v0 with
                | true =>
                  go_enter Tryf.func6, Tryf.ntmps6
                  go_wp2_with (first | (go_at_call 9; (with_reducible refine (H0 _).out.mono ?_); rintro _ _ ⟨rfl, rfl⟩) | (go_at_call 9; (with_reducible refine (H1 _).out.mono ?_); rintro _ _ ⟨rfl, rfl⟩) | (go_at_call 9; (with_reducible refine (H2 _).out.mono ?_); rintro _ _ ⟨rfl, rfl⟩) | (go_at_call 10; (with_reducible refine (HT _).out.mono ?_); rintro _ _ ⟨rfl, rfl⟩))
                  go_ret
                  exact ⟨by simp, rfl⟩
                | false =>
                  cases vl with
                  | true =>
                    cases q2 with
                    | true =>
                      go_enter Tryf.func6, Tryf.ntmps6
                      go_wp2_with (first | (go_at_call 9; (with_reducible refine (H0 _).out.mono ?_); rintro _ _ ⟨rfl, rfl⟩) | (go_at_call 9; (with_reducible refine (H1 _).out.mono ?_); rintro _ _ ⟨rfl, rfl⟩) | (go_at_call 9; (with_reducible refine (H2 _).out.mono ?_); rintro _ _ ⟨rfl, rfl⟩) | (go_at_call 10; (with_reducible refine (HT _).out.mono ?_); rintro _ _ ⟨rfl, rfl⟩))
                      go_ret
                      exact ⟨by simp, rfl⟩
                    | false =>
                      go_enter Tryf.func6, Tryf.ntmps6
                      go_wp2_with (first | (go_at_call 9; (with_reducible refine (H0 _).out.mono ?_); rintro _ _ ⟨rfl, rfl⟩) | (go_at_call 9; (with_reducible refine (H1 _).out.mono ?_); rintro _ _ ⟨rfl, rfl⟩) | (go_at_call 9; (with_reducible refine (H2 _).out.mono ?_); rintro _ _ ⟨rfl, rfl⟩) | (go_at_call 10; (with_reducible refine (HT _).out.mono ?_); rintro _ _ ⟨rfl, rfl⟩))
                      go_ret
                      exact ⟨by simp, rfl⟩
                  | false =>
                    go_enter Tryf.func6, Tryf.ntmps6
                    go_wp2_with (first | (go_at_call 9; (with_reducible refine (H0 _).out.mono ?_); rintro _ _ ⟨rfl, rfl⟩) | (go_at_call 9; (with_reducible refine (H1 _).out.mono ?_); rintro _ _ ⟨rfl, rfl⟩) | (go_at_call 9; (with_reducible refine (H2 _).out.mono ?_); rintro _ _ ⟨rfl, rfl⟩) | (go_at_call 10; (with_reducible refine (HT _).out.mono ?_); rintro _ _ ⟨rfl, rfl⟩))
                    go_ret
                    exact ⟨by simp, rfl⟩
            | false =>
              cases v0 with
              | true =>
                go_enter Tryf.func6, Tryf.ntmps6
                go_wp2_with (first | (go_at_call 9; (with_reducible refine (H0 _).out.mono ?_); rintro _ _ ⟨rfl, rfl⟩) | (go_at_call 9; (with_reducible refine (H1 _).out.mono ?_); rintro _ _ ⟨rfl, rfl⟩) | (go_at_call 9; (with_reducible refine (H2 _).out.mono ?_); rintro _ _ ⟨rfl, rfl⟩) | (go_at_call 10; (with_reducible refine (HT _).out.mono ?_); rintro _ _ ⟨rfl, rfl⟩))
                go_ret
                exact ⟨by simp, rfl⟩
              | false =>
                cases vl with
                | true =>
                  cases q2 with
                  | true =>
                    cases v2 with
                    | true =>
                      go_enter Tryf.func6, Tryf.ntmps6
                      go_wp2_with (first | (go_at_call 9; (with_reducible refine (H0 _).out.mono ?_); rintro _ _ ⟨rfl, rfl⟩) | (go_at_call 9; (with_reducible refine (H1 _).out.mono ?_); rintro _ _ ⟨rfl, rfl⟩) | (go_at_call 9; (with_reducible refine (H2 _).out.mono ?_); rintro _ _ ⟨rfl, rfl⟩) | (go_at_call 10; (with_reducible refine (HT _).out.mono ?_); rintro _ _ ⟨rfl, rfl⟩))
                      go_ret
                      exact ⟨by simp, rfl⟩
                    | false =>
                      go_enter Tryf.func6, Tryf.ntmps6
                      go_wp2_with (first | (go_at_call 9; (with_reducible refine (H0 _).out.mono ?_); rintro _ _ ⟨rfl, rfl⟩) | (go_at_call 9; (with_reducible refine (H1 _).out.mono ?_); rintro _ _ ⟨rfl, rfl⟩) | (go_at_call 9; (with_reducible refine (H2 _).out.mono ?_); rintro _ _ ⟨rfl, rfl⟩) | (go_at_call 10; (with_reducible refine (HT _).out.mono ?_); rintro _ _ ⟨rfl, rfl⟩))
                      go_ret
                      exact ⟨by simp, rfl⟩
                  | false =>
                    go_enter Tryf.func6, Tryf.ntmps6
                    go_wp2_with (first | (go_at_call 9; (with_reducible refine (H0 _).out.mono ?_); rintro _ _ ⟨rfl, rfl⟩) | (go_at_call 9; (with_reducible refine (H1 _).out.mono ?_); rintro _ _ ⟨rfl, rfl⟩) | (go_at_call 9; (with_reducible refine (H2 _).out.mono ?_); rintro _ _ ⟨rfl, rfl⟩) | (go_at_call 10; (with_reducible refine (HT _).out.mono ?_); rintro _ _ ⟨rfl, rfl⟩))
                    go_ret
                    exact ⟨by simp, rfl⟩
                | false =>
                  go_enter Tryf.func6, Tryf.ntmps6
                  go_wp2_with (first | (go_at_call 9; (with_reducible refine (H0 _).out.mono ?_); rintro _ _ ⟨rfl, rfl⟩) | (go_at_call 9; (with_reducible refine (H1 _).out.mono ?_); rintro _ _ ⟨rfl, rfl⟩) | (go_at_call 9; (with_reducible refine (H2 _).out.mono ?_); rintro _ _ ⟨rfl, rfl⟩) | (go_at_call 10; (with_reducible refine (HT _).out.mono ?_); rintro _ _ ⟨rfl, rfl⟩))
                  go_ret
                  exact ⟨by simp, rfl⟩
        | false =>
          cases v0 with
          | true =>
            go_enter Tryf.func6, Tryf.ntmps6
            go_wp2_with (first | (go_at_call 9; (with_reducible refine (H0 _).out.mono ?_); rintro _ _ ⟨rfl, rfl⟩) | (go_at_call 9; (with_reducible refine (H1 _).out.mono ?_); rintro _ _ ⟨rfl, rfl⟩) | (go_at_call 9; (with_reducible refine (H2 _).out.mono ?_); rintro _ _ ⟨rfl, rfl⟩) | (go_at_call 10; (with_reducible refine (HT _).out.mono ?_); rintro _ _ ⟨rfl, rfl⟩))
            go_ret
            exact ⟨by simp, rfl⟩
          | false =>
            cases vl with
            | true =>
              cases q2 with
              | true =>
                cases v2 with
                | true =>
                  go_enter Tryf.func6, Tryf.ntmps6
                  go_wp2_with (first | (go_at_call 9; (with_reducible refine (H0 _).out.mono ?_); rintro _ _ ⟨rfl, rfl⟩) | (go_at_call 9; (with_reducible refine (H1 _).out.mono ?_); rintro _ _ ⟨rfl, rfl⟩) | (go_at_call 9; (with_reducible refine (H2 _).out.mono ?_); rintro _ _ ⟨rfl, rfl⟩) | (go_at_call 10; (with_reducible refine (HT _).out.mono ?_); rintro _ _ ⟨rfl, rfl⟩))
                  go_ret
                  exact ⟨by simp, rfl⟩
                | false =>
                  go_enter Tryf.func6, Tryf.ntmps6
                  go_wp2_with (first | (go_at_call 9; (with_reducible refine (H0 _).out.mono ?_); rintro _ _ ⟨rfl, rfl⟩) | (go_at_call 9; (with_reducible refine (H1 _).out.mono ?_); rintro _ _ ⟨rfl, rfl⟩) | (go_at_call 9; (with_reducible refine (H2 _).out.mono ?_); rintro _ _ ⟨rfl, rfl⟩) | (go_at_call 10; (with_reducible refine (HT _).out.mono ?_); rintro _ _ ⟨rfl, rfl⟩))
                  go_ret
                  exact ⟨by simp, rfl⟩
              | false =>
                go_enter Tryf.func6, Tryf.ntmps6
                go_wp2_with (first | (go_at_call 9; (with_reducible refine (H0 _).out.mono ?_); rintro _ _ ⟨rfl, rfl⟩) | (go_at_call 9; (with_reducible refine (H1 _).out.mono ?_); rintro _ _ ⟨rfl, rfl⟩) | (go_at_call 9; (with_reducible refine (H2 _).out.mono ?_); rintro _ _ ⟨rfl, rfl⟩) | (go_at_call 10; (with_reducible refine (HT _).out.mono ?_); rintro _ _ ⟨rfl, rfl⟩))
                go_ret
                exact ⟨by simp, rfl⟩
            | false =>
              go_enter Tryf.func6, Tryf.ntmps6
              go_wp2_with (first | (go_at_call 9; (with_reducible refine (H0 _).out.mono ?_); rintro _ _ ⟨rfl, rfl⟩) | (go_at_call 9; (with_reducible refine (H1 _).out.mono ?_); rintro _ _ ⟨rfl, rfl⟩) | (go_at_call 9; (with_reducible refine (H2 _).out.mono ?_); rintro _ _ ⟨rfl, rfl⟩) | (go_at_call 10; (with_reducible refine (HT _).out.mono ?_); rintro _ _ ⟨rfl, rfl⟩))
              go_ret
              exact ⟨by simp, rfl⟩
end Go.Proofs.YtlgdojbojlbehaaFmt
